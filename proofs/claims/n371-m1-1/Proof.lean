import JvmDerived
import JvmDerived.Pilot.@@N@@Statement
import JvmDerived.Pilot.@@N@@Code
set_option linter.unusedVariables false
set_option linter.unusedSimpArgs false
namespace Jvm.Pilot.@@N@@
open Jvm Jvm.ClassFile Sem Op Lib Jvm.Free Jvm.Stand Jvm.LawKit Jvm.RoadKit Bundle Jvm.Pilot.@@N@@.Jvm.D

/-! ### the own kit: a walk's goal in continuation form -/
def Go (p : Program) (e : Env) (below : List Frame) (Φ : Outcome → State → Prop) (U : State) : Prop :=
  ∃ s₂ o, Steps p.tables e below U s₂ ∧ s₂.status = .running ∧ Ended s₂ below o ∧ Φ o s₂
def Fin0 (s : State) (rm : Room) (Q : Option Value → Heap → List Loc → Prop) : Outcome → State → Prop :=
  fun o U' => ∃ v L, o = .returned v ∧ Q v U'.heap L ∧ FrameEnd s o U' L rm.cells rm.slots
abbrev Ctr (l : Launch) (Z : State) (y : MethodName) (bytes : ByteArray) (ml : Nat) (rt : Option FieldType) (rm : Room) (ws : List Jvm.Cond) (as' : Array Value) (h0 : Heap) (Q : Option Value → Heap → List Loc → Prop) : Prop :=
  MetFree l y (head1 (Jvm.Cond.code y bytes ml rt :: ws) rm) (fun a U => a = as' ∧ Z.Warmed39 U.vm ∧ U.heap = h0) (fun _ _ _ _ _ => True) (fun _ U o U' => ∃ v L, o = .returned v ∧ Q v U'.heap L ∧ FrameEnd U o U' L rm.cells rm.slots)
def b2i (b : Bool) : Int32 := if b then 1 else 0
theorem b2i_t : b2i true = 1 := rfl
theorem b2i_f : b2i false = 0 := rfl
theorem b2i_nar (b : Bool) : nar .boolean (b2i b) = b2i b := by cases b <;> rfl
theorem b2i_inj {a b : Bool} : b2i a = b2i b ↔ a = b := by cases a <;> cases b <;> decide
theorem i32e {x y : Int32} : x = y ↔ x.toInt = y.toInt := Int32.toInt_inj.symm
theorem i64e {x y : Int64} : x = y ↔ x.toInt = y.toInt := Int64.toInt_inj.symm
theorem okB {b : Bool} (h : b = true) : some (Value.int (b2i b)) = some (Value.int 1) := by rw [h]; rfl
theorem eqT {P : Prop} [Decidable P] (h : P) : some (Value.int (b2i true)) = some (Value.int (b2i (decide P))) := by rw [decide_eq_true h]
theorem eqF {P : Prop} [Decidable P] (h : ¬ P) : some (Value.int (b2i false)) = some (Value.int (b2i (decide P))) := by rw [decide_eq_false h]
theorem eqD {P Q : Prop} [Decidable P] [Decidable Q] (h : Q ↔ P) : some (Value.int (b2i (decide Q))) = some (Value.int (b2i (decide P))) := by rw [decide_eq_decide.mpr h]
theorem eqB {P : Prop} [Decidable P] {b : Bool} (h : b = true ↔ P) : some (Value.int (b2i b)) = some (Value.int (b2i (decide P))) := by
  rw [show b = decide P from by by_cases q : P <;> simp [q, h] <;> (cases b <;> simp_all)]
/-- what a pure callee leaves that returns an int (a long) of which P is said -/
def IQ (P : Int32 → Prop) (h0 : Heap) : Option Value → Heap → List Loc → Prop := fun v h L => ∃ r, v = some (.int r) ∧ P r ∧ h = h0 ∧ L = []
def JQ (P : Int64 → Prop) (h0 : Heap) : Option Value → Heap → List Loc → Prop := fun v h L => ∃ r, v = some (.long r) ∧ P r ∧ h = h0 ∧ L = []
/-- what a pure callee leaves -/
def PQ (r : Value) (h0 : Heap) : Option Value → Heap → List Loc → Prop := fun v h L => v = some r ∧ h = h0 ∧ L = []
theorem Ctr.of {l : Launch} {Z : State} {y : MethodName} {bytes : ByteArray} {ml : Nat} {rt : Option FieldType} {rm : Room} {ws : List Jvm.Cond} {as' : Array Value} {h0 : Heap} {Q : Option Value → Heap → List Loc → Prop} (hp : plainFor y = true)
    (body : ∀ (p : Program) (e : Env) (s : State) (m : MethodId) (below : List Frame) (meth : Method) (c : Code) (s₁ : State), p.tables.exec = Jvm.exec → c.code = bytes → c.maxLocals = ml → meth.sig.returnType = rt → meth.locks = false → meth.name = y.name → s.vm.findClass y.cls = some m.cls → Z.Warmed39 s.vm → Stand p l e rm s m as' below meth c s₁ [] 0 0 → s₁.heap = h0 →
      Go p e below (Fin0 s rm Q) (s₁.setTop (entryFrame m as' ml))) : Ctr l Z y bytes ml rt rm ws as' h0 Q := by
  refine MetFree.of_bodySF hp hisR ?_
  intro p e s m args below meth c s₁ Bd hml0 hP hK
  obtain ⟨rfl, hZ, hh⟩ := hP
  obtain ⟨s₂, o, g1, g2, g3, v, L, g4, g5, g6⟩ := body p e s m below meth c s₁ Bd.exec Bd.bytes hml0 Bd.returns Bd.notSynchronized (name_of_methodNamed Bd.named Bd.method).1 (findClass_of_methodNamed Bd.named) hZ (Stand.of_body Bd) (by rw [← hh, Bd.state]; rfl)
  exact ⟨s₂, o, g1, g2, g3, v, L, g4, g5, g6⟩
theorem st_one {L L' : Array Slot} {i : Nat} {o : Slot} {v : Value} (h : L[i]? = some o) (ho : One o) (hv : v.category = 1) (hL : L.setIfInBounds i (.val v) = L') : storeLocals L i v = some L' := by
  rw [XS.store1 h ho hv, hL]
section OwnKit
variable {p : Program} {l : Launch} {e : Env} {R : Room} {s : State} {m : MethodId} {args : Array Value} {below : List Frame} {meth : Method} {c : Code} {T : State} {locs : List Loc} {cells slots : Nat} {Z : State} {a0 : Array Value} {h : Heap} {Φ : Outcome → State → Prop} {pc q : Nat} {L : Array Slot} {S : List Value}
theorem Go.by {U U' : State} (h : ∀ t, Steps p.tables e below U' t → Steps p.tables e below U t) (k : Go p e below Φ U') : Go p e below Φ U := by
  obtain ⟨s₂, o, h1, r⟩ := k; exact ⟨s₂, o, h _ h1, r⟩
theorem Go.cast {g g' : JFrame} (q : g = g') (k : Go p e below Φ (T.setTop g')) : Go p e below Φ (T.setTop g) := q ▸ k
theorem g_iloadN (hA : At T m c below) (hx : p.tables.exec = Jvm.exec) {j : Fin 4} {v : Int32} (hd : decode c.code pc = .ok (.iload_n j, 1)) (hl : L[j.val]? = some (.val (.int v))) (hq : pc + 1 = q) (k : Go p e below Φ (T.setTop (mkF m q L (.int v :: S)))) : Go p e below Φ (T.setTop (mkF m pc L S)) := by
  subst hq; exact Go.by (fun _ => XS.iloadN hA hx rfl hd hl) k
theorem g_iload (hA : At T m c below) (hx : p.tables.exec = Jvm.exec) {j : Nat} {v : Int32} (hd : decode c.code pc = .ok (.iload j, 2)) (hl : L[j]? = some (.val (.int v))) (hq : pc + 2 = q) (k : Go p e below Φ (T.setTop (mkF m q L (.int v :: S)))) : Go p e below Φ (T.setTop (mkF m pc L S)) := by
  subst hq; exact Go.by (fun _ => XS.iload hA hx rfl hd hl) k
theorem g_istoreN (hA : At T m c below) (hx : p.tables.exec = Jvm.exec) {j : Fin 4} {v : Int32} {L' : Array Slot} (hd : decode c.code pc = .ok (.istore_n j, 1)) (hl : storeLocals L j.val (.int v) = some L') (hq : pc + 1 = q) (k : Go p e below Φ (T.setTop (mkF m q L' S))) : Go p e below Φ (T.setTop (mkF m pc L (.int v :: S))) := by
  subst hq; exact Go.by (fun _ => XS.istoreN hA hx rfl hd rfl hl) k
theorem g_istore (hA : At T m c below) (hx : p.tables.exec = Jvm.exec) {j : Nat} {v : Int32} {L' : Array Slot} (hd : decode c.code pc = .ok (.istore j, 2)) (hl : storeLocals L j (.int v) = some L') (hq : pc + 2 = q) (k : Go p e below Φ (T.setTop (mkF m q L' S))) : Go p e below Φ (T.setTop (mkF m pc L (.int v :: S))) := by
  subst hq; exact Go.by (fun _ => XS.istore hA hx rfl hd rfl hl) k
theorem g_lloadN (hA : At T m c below) (hx : p.tables.exec = Jvm.exec) {j : Fin 4} {v : Int64} (hd : decode c.code pc = .ok (.lload_n j, 1)) (hl : L[j.val]? = some (.val (.long v))) (hq : pc + 1 = q) (k : Go p e below Φ (T.setTop (mkF m q L (.long v :: S)))) : Go p e below Φ (T.setTop (mkF m pc L S)) := by
  subst hq; exact Go.by (fun _ => XS.lloadN hA hx rfl hd hl) k
theorem g_lload (hA : At T m c below) (hx : p.tables.exec = Jvm.exec) {j : Nat} {v : Int64} (hd : decode c.code pc = .ok (.lload j, 2)) (hl : L[j]? = some (.val (.long v))) (hq : pc + 2 = q) (k : Go p e below Φ (T.setTop (mkF m q L (.long v :: S)))) : Go p e below Φ (T.setTop (mkF m pc L S)) := by
  subst hq; exact Go.by (fun _ => XS.lload hA hx rfl hd hl) k
theorem g_lstoreN (hA : At T m c below) (hx : p.tables.exec = Jvm.exec) {j : Fin 4} {v : Int64} {L' : Array Slot} (hd : decode c.code pc = .ok (.lstore_n j, 1)) (hl : storeLocals L j.val (.long v) = some L') (hq : pc + 1 = q) (k : Go p e below Φ (T.setTop (mkF m q L' S))) : Go p e below Φ (T.setTop (mkF m pc L (.long v :: S))) := by
  subst hq; exact Go.by (fun _ => XS.lstoreN hA hx rfl hd rfl hl) k
theorem g_lstore (hA : At T m c below) (hx : p.tables.exec = Jvm.exec) {j : Nat} {v : Int64} {L' : Array Slot} (hd : decode c.code pc = .ok (.lstore j, 2)) (hl : storeLocals L j (.long v) = some L') (hq : pc + 2 = q) (k : Go p e below Φ (T.setTop (mkF m q L' S))) : Go p e below Φ (T.setTop (mkF m pc L (.long v :: S))) := by
  subst hq; exact Go.by (fun _ => XS.lstore hA hx rfl hd rfl hl) k
theorem g_aloadN (hA : At T m c below) (hx : p.tables.exec = Jvm.exec) {j : Fin 4} {v : Value} (hd : decode c.code pc = .ok (.aload_n j, 1)) (hl : L[j.val]? = some (.val v)) (hv : v.isRef = true) (hq : pc + 1 = q) (k : Go p e below Φ (T.setTop (mkF m q L (v :: S)))) : Go p e below Φ (T.setTop (mkF m pc L S)) := by
  subst hq; exact Go.by (fun _ => XS.aloadN hA hx rfl hd hl hv) k
theorem g_aload (hA : At T m c below) (hx : p.tables.exec = Jvm.exec) {j : Nat} {v : Value} (hd : decode c.code pc = .ok (.aload j, 2)) (hl : L[j]? = some (.val v)) (hv : v.isRef = true) (hq : pc + 2 = q) (k : Go p e below Φ (T.setTop (mkF m q L (v :: S)))) : Go p e below Φ (T.setTop (mkF m pc L S)) := by
  subst hq; exact Go.by (fun _ => XS.aload hA hx rfl hd hl hv) k
theorem g_astoreN (hA : At T m c below) (hx : p.tables.exec = Jvm.exec) {j : Fin 4} {v : Value} {L' : Array Slot} (hd : decode c.code pc = .ok (.astore_n j, 1)) (hv : v.isRef = true) (hl : storeLocals L j.val v = some L') (hq : pc + 1 = q) (k : Go p e below Φ (T.setTop (mkF m q L' S))) : Go p e below Φ (T.setTop (mkF m pc L (v :: S))) := by
  subst hq; exact Go.by (fun _ => XS.astoreN hA hx rfl hd rfl hv hl) k
theorem g_astore (hA : At T m c below) (hx : p.tables.exec = Jvm.exec) {j : Nat} {v : Value} {L' : Array Slot} (hd : decode c.code pc = .ok (.astore j, 2)) (hv : v.isRef = true) (hl : storeLocals L j v = some L') (hq : pc + 2 = q) (k : Go p e below Φ (T.setTop (mkF m q L' S))) : Go p e below Φ (T.setTop (mkF m pc L (v :: S))) := by
  subst hq; exact Go.by (fun _ => XS.astore hA hx rfl hd rfl hv hl) k
theorem g_iconst (hA : At T m c below) (hx : p.tables.exec = Jvm.exec) {i : Int} {v : Int32} (hd : decode c.code pc = .ok (.iconst i, 1)) (hv : Int32.ofInt i = v) (hq : pc + 1 = q) (k : Go p e below Φ (T.setTop (mkF m q L (.int v :: S)))) : Go p e below Φ (T.setTop (mkF m pc L S)) := by
  subst hq hv; exact Go.by (fun _ => XS.iconst hA hx rfl hd) k
theorem g_bipush (hA : At T m c below) (hx : p.tables.exec = Jvm.exec) {i : Int} {v : Int32} (hd : decode c.code pc = .ok (.bipush i, 2)) (hv : (Int8.ofInt i).toInt32 = v) (hq : pc + 2 = q) (k : Go p e below Φ (T.setTop (mkF m q L (.int v :: S)))) : Go p e below Φ (T.setTop (mkF m pc L S)) := by
  subst hq hv; exact Go.by (fun _ => XS.bipush hA hx rfl hd) k
theorem g_sipush (hA : At T m c below) (hx : p.tables.exec = Jvm.exec) {i : Int} {v : Int32} (hd : decode c.code pc = .ok (.sipush i, 3)) (hv : (Int16.ofInt i).toInt32 = v) (hq : pc + 3 = q) (k : Go p e below Φ (T.setTop (mkF m q L (.int v :: S)))) : Go p e below Φ (T.setTop (mkF m pc L S)) := by
  subst hq hv; exact Go.by (fun _ => XS.sipush hA hx rfl hd) k
theorem g_lconst0 (hA : At T m c below) (hx : p.tables.exec = Jvm.exec) (hd : decode c.code pc = .ok (.lconst 0, 1)) (hq : pc + 1 = q) (k : Go p e below Φ (T.setTop (mkF m q L (.long 0 :: S)))) : Go p e below Φ (T.setTop (mkF m pc L S)) := by
  subst hq; exact Go.by (fun _ => XS.lconst hA hx rfl hd) k
theorem g_lconst1 (hA : At T m c below) (hx : p.tables.exec = Jvm.exec) (hd : decode c.code pc = .ok (.lconst 1, 1)) (hq : pc + 1 = q) (k : Go p e below Φ (T.setTop (mkF m q L (.long 1 :: S)))) : Go p e below Φ (T.setTop (mkF m pc L S)) := by
  subst hq; exact Go.by (fun _ => XS.lconst hA hx rfl hd) k
theorem g_aconst_null (hA : At T m c below) (hx : p.tables.exec = Jvm.exec) (hd : decode c.code pc = .ok (.aconst_null, 1)) (hq : pc + 1 = q) (k : Go p e below Φ (T.setTop (mkF m q L (.null :: S)))) : Go p e below Φ (T.setTop (mkF m pc L S)) := by
  subst hq; exact Go.by (fun _ => XS.aconstNull hA hx rfl hd) k
theorem g_iadd (hA : At T m c below) (hx : p.tables.exec = Jvm.exec) {x y : Int32} (hd : decode c.code pc = .ok (.iadd, 1)) (hq : pc + 1 = q) (k : Go p e below Φ (T.setTop (mkF m q L (.int (x + y) :: S)))) : Go p e below Φ (T.setTop (mkF m pc L (.int y :: .int x :: S))) := by
  subst hq; exact Go.by (fun _ => XS.iadd hA hx rfl hd rfl) k
theorem g_isub (hA : At T m c below) (hx : p.tables.exec = Jvm.exec) {x y : Int32} (hd : decode c.code pc = .ok (.isub, 1)) (hq : pc + 1 = q) (k : Go p e below Φ (T.setTop (mkF m q L (.int (x - y) :: S)))) : Go p e below Φ (T.setTop (mkF m pc L (.int y :: .int x :: S))) := by
  subst hq; exact Go.by (fun _ => XS.isub hA hx rfl hd rfl) k
theorem g_imul (hA : At T m c below) (hx : p.tables.exec = Jvm.exec) {x y : Int32} (hd : decode c.code pc = .ok (.imul, 1)) (hq : pc + 1 = q) (k : Go p e below Φ (T.setTop (mkF m q L (.int (x * y) :: S)))) : Go p e below Φ (T.setTop (mkF m pc L (.int y :: .int x :: S))) := by
  subst hq; exact Go.by (fun _ => XS.imul hA hx rfl hd rfl) k
theorem g_iand (hA : At T m c below) (hx : p.tables.exec = Jvm.exec) {x y : Int32} (hd : decode c.code pc = .ok (.iand, 1)) (hq : pc + 1 = q) (k : Go p e below Φ (T.setTop (mkF m q L (.int (x &&& y) :: S)))) : Go p e below Φ (T.setTop (mkF m pc L (.int y :: .int x :: S))) := by
  subst hq; exact Go.by (fun _ => XS.iand hA hx rfl hd rfl) k
theorem g_ior (hA : At T m c below) (hx : p.tables.exec = Jvm.exec) {x y : Int32} (hd : decode c.code pc = .ok (.ior, 1)) (hq : pc + 1 = q) (k : Go p e below Φ (T.setTop (mkF m q L (.int (x ||| y) :: S)))) : Go p e below Φ (T.setTop (mkF m pc L (.int y :: .int x :: S))) := by
  subst hq; exact Go.by (fun _ => XS.ior hA hx rfl hd rfl) k
theorem g_ixor (hA : At T m c below) (hx : p.tables.exec = Jvm.exec) {x y : Int32} (hd : decode c.code pc = .ok (.ixor, 1)) (hq : pc + 1 = q) (k : Go p e below Φ (T.setTop (mkF m q L (.int (x ^^^ y) :: S)))) : Go p e below Φ (T.setTop (mkF m pc L (.int y :: .int x :: S))) := by
  subst hq; exact Go.by (fun _ => XS.ixor hA hx rfl hd rfl) k
theorem g_ishl (hA : At T m c below) (hx : p.tables.exec = Jvm.exec) {x y : Int32} (hd : decode c.code pc = .ok (.ishl, 1)) (hq : pc + 1 = q) (k : Go p e below Φ (T.setTop (mkF m q L (.int (x <<< (y &&& 31)) :: S)))) : Go p e below Φ (T.setTop (mkF m pc L (.int y :: .int x :: S))) := by
  subst hq; exact Go.by (fun _ => XS.ishl hA hx rfl hd rfl) k
theorem g_ishr (hA : At T m c below) (hx : p.tables.exec = Jvm.exec) {x y : Int32} (hd : decode c.code pc = .ok (.ishr, 1)) (hq : pc + 1 = q) (k : Go p e below Φ (T.setTop (mkF m q L (.int (x >>> (y &&& 31)) :: S)))) : Go p e below Φ (T.setTop (mkF m pc L (.int y :: .int x :: S))) := by
  subst hq; exact Go.by (fun _ => XS.ishr hA hx rfl hd rfl) k
theorem g_iushr (hA : At T m c below) (hx : p.tables.exec = Jvm.exec) {x y : Int32} (hd : decode c.code pc = .ok (.iushr, 1)) (hq : pc + 1 = q) (k : Go p e below Φ (T.setTop (mkF m q L (.int ((x.toUInt32 >>> (y &&& 31).toUInt32).toInt32) :: S)))) : Go p e below Φ (T.setTop (mkF m pc L (.int y :: .int x :: S))) := by
  subst hq; exact Go.by (fun _ => XS.iushr hA hx rfl hd rfl) k
theorem g_ladd (hA : At T m c below) (hx : p.tables.exec = Jvm.exec) {x y : Int64} (hd : decode c.code pc = .ok (.ladd, 1)) (hq : pc + 1 = q) (k : Go p e below Φ (T.setTop (mkF m q L (.long (x + y) :: S)))) : Go p e below Φ (T.setTop (mkF m pc L (.long y :: .long x :: S))) := by
  subst hq; exact Go.by (fun _ => XS.ladd hA hx rfl hd rfl) k
theorem g_lsub (hA : At T m c below) (hx : p.tables.exec = Jvm.exec) {x y : Int64} (hd : decode c.code pc = .ok (.lsub, 1)) (hq : pc + 1 = q) (k : Go p e below Φ (T.setTop (mkF m q L (.long (x - y) :: S)))) : Go p e below Φ (T.setTop (mkF m pc L (.long y :: .long x :: S))) := by
  subst hq; exact Go.by (fun _ => XS.lsub hA hx rfl hd rfl) k
theorem g_lmul (hA : At T m c below) (hx : p.tables.exec = Jvm.exec) {x y : Int64} (hd : decode c.code pc = .ok (.lmul, 1)) (hq : pc + 1 = q) (k : Go p e below Φ (T.setTop (mkF m q L (.long (x * y) :: S)))) : Go p e below Φ (T.setTop (mkF m pc L (.long y :: .long x :: S))) := by
  subst hq; exact Go.by (fun _ => XS.lmul hA hx rfl hd rfl) k
theorem g_land (hA : At T m c below) (hx : p.tables.exec = Jvm.exec) {x y : Int64} (hd : decode c.code pc = .ok (.land, 1)) (hq : pc + 1 = q) (k : Go p e below Φ (T.setTop (mkF m q L (.long (x &&& y) :: S)))) : Go p e below Φ (T.setTop (mkF m pc L (.long y :: .long x :: S))) := by
  subst hq; exact Go.by (fun _ => XS.land hA hx rfl hd rfl) k
theorem g_lor (hA : At T m c below) (hx : p.tables.exec = Jvm.exec) {x y : Int64} (hd : decode c.code pc = .ok (.lor, 1)) (hq : pc + 1 = q) (k : Go p e below Φ (T.setTop (mkF m q L (.long (x ||| y) :: S)))) : Go p e below Φ (T.setTop (mkF m pc L (.long y :: .long x :: S))) := by
  subst hq; exact Go.by (fun _ => XS.lor hA hx rfl hd rfl) k
theorem g_lxor (hA : At T m c below) (hx : p.tables.exec = Jvm.exec) {x y : Int64} (hd : decode c.code pc = .ok (.lxor, 1)) (hq : pc + 1 = q) (k : Go p e below Φ (T.setTop (mkF m q L (.long (x ^^^ y) :: S)))) : Go p e below Φ (T.setTop (mkF m pc L (.long y :: .long x :: S))) := by
  subst hq; exact Go.by (fun _ => XS.lxor hA hx rfl hd rfl) k
theorem g_lshl (hA : At T m c below) (hx : p.tables.exec = Jvm.exec) {x : Int64} {y : Int32} (hd : decode c.code pc = .ok (.lshl, 1)) (hq : pc + 1 = q) (k : Go p e below Φ (T.setTop (mkF m q L (.long (x <<< (y &&& 0x3f).toInt64) :: S)))) : Go p e below Φ (T.setTop (mkF m pc L (.int y :: .long x :: S))) := by
  subst hq; exact Go.by (fun _ => XS.lshl hA hx rfl hd rfl) k
theorem g_lshr (hA : At T m c below) (hx : p.tables.exec = Jvm.exec) {x : Int64} {y : Int32} (hd : decode c.code pc = .ok (.lshr, 1)) (hq : pc + 1 = q) (k : Go p e below Φ (T.setTop (mkF m q L (.long (x >>> (y &&& 0x3f).toInt64) :: S)))) : Go p e below Φ (T.setTop (mkF m pc L (.int y :: .long x :: S))) := by
  subst hq; exact Go.by (fun _ => XS.lshr hA hx rfl hd rfl) k
theorem g_lushr (hA : At T m c below) (hx : p.tables.exec = Jvm.exec) {x : Int64} {y : Int32} (hd : decode c.code pc = .ok (.lushr, 1)) (hq : pc + 1 = q) (k : Go p e below Φ (T.setTop (mkF m q L (.long ((x.toUInt64 >>> (y &&& 0x3f).toInt64.toUInt64).toInt64) :: S)))) : Go p e below Φ (T.setTop (mkF m pc L (.int y :: .long x :: S))) := by
  subst hq; exact Go.by (fun _ => XS.lushr hA hx rfl hd rfl) k
theorem g_idiv (hA : At T m c below) (hx : p.tables.exec = Jvm.exec) {x y : Int32} (hd : decode c.code pc = .ok (.idiv, 1)) (hy : y ≠ 0) (hq : pc + 1 = q) (k : Go p e below Φ (T.setTop (mkF m q L (.int (x / y) :: S)))) : Go p e below Φ (T.setTop (mkF m pc L (.int y :: .int x :: S))) := by
  subst hq; exact Go.by (fun _ => XS.idiv hA hx rfl hd rfl hy) k
theorem g_irem (hA : At T m c below) (hx : p.tables.exec = Jvm.exec) {x y : Int32} (hd : decode c.code pc = .ok (.irem, 1)) (hy : y ≠ 0) (hq : pc + 1 = q) (k : Go p e below Φ (T.setTop (mkF m q L (.int (x % y) :: S)))) : Go p e below Φ (T.setTop (mkF m pc L (.int y :: .int x :: S))) := by
  subst hq; exact Go.by (fun _ => fun r => XS.irem hA hx rfl hd rfl hy (by rw [irem_eq_mod x y]; exact r)) k
theorem g_ldiv (hA : At T m c below) (hx : p.tables.exec = Jvm.exec) {x y : Int64} (hd : decode c.code pc = .ok (.ldiv, 1)) (hy : y ≠ 0) (hq : pc + 1 = q) (k : Go p e below Φ (T.setTop (mkF m q L (.long (x / y) :: S)))) : Go p e below Φ (T.setTop (mkF m pc L (.long y :: .long x :: S))) := by
  subst hq; exact Go.by (fun _ => XS.ldiv hA hx rfl hd rfl hy) k
theorem g_lrem (hA : At T m c below) (hx : p.tables.exec = Jvm.exec) {x y : Int64} (hd : decode c.code pc = .ok (.lrem, 1)) (hy : y ≠ 0) (hq : pc + 1 = q) (k : Go p e below Φ (T.setTop (mkF m q L (.long (x % y) :: S)))) : Go p e below Φ (T.setTop (mkF m pc L (.long y :: .long x :: S))) := by
  subst hq; exact Go.by (fun _ => fun r => XS.lrem hA hx rfl hd rfl hy (by rw [lrem_mod x y]; exact r)) k
theorem g_ineg (hA : At T m c below) (hx : p.tables.exec = Jvm.exec) {x : Int32} (hd : decode c.code pc = .ok (.ineg, 1)) (hq : pc + 1 = q) (k : Go p e below Φ (T.setTop (mkF m q L (.int (-x) :: S)))) : Go p e below Φ (T.setTop (mkF m pc L (.int x :: S))) := by
  subst hq; exact Go.by (fun _ => XS.ineg hA hx rfl hd rfl) k
theorem g_i2l (hA : At T m c below) (hx : p.tables.exec = Jvm.exec) {x : Int32} (hd : decode c.code pc = .ok (.i2l, 1)) (hq : pc + 1 = q) (k : Go p e below Φ (T.setTop (mkF m q L (.long x.toInt64 :: S)))) : Go p e below Φ (T.setTop (mkF m pc L (.int x :: S))) := by
  subst hq; exact Go.by (fun _ => XS.i2l hA hx rfl hd rfl) k
theorem g_l2i (hA : At T m c below) (hx : p.tables.exec = Jvm.exec) {x : Int64} (hd : decode c.code pc = .ok (.l2i, 1)) (hq : pc + 1 = q) (k : Go p e below Φ (T.setTop (mkF m q L (.int x.toInt32 :: S)))) : Go p e below Φ (T.setTop (mkF m pc L (.long x :: S))) := by
  subst hq; exact Go.by (fun _ => XS.l2i hA hx rfl hd rfl) k
theorem g_i2c (hA : At T m c below) (hx : p.tables.exec = Jvm.exec) {x : Int32} (hd : decode c.code pc = .ok (.i2c, 1)) (hq : pc + 1 = q) (k : Go p e below Φ (T.setTop (mkF m q L (.int x.toUInt32.toUInt16.toUInt32.toInt32 :: S)))) : Go p e below Φ (T.setTop (mkF m pc L (.int x :: S))) := by
  subst hq; exact Go.by (fun _ => XS.i2c hA hx rfl hd rfl) k
theorem g_lcmp (hA : At T m c below) (hx : p.tables.exec = Jvm.exec) {x y : Int64} (hd : decode c.code pc = .ok (.lcmp, 1)) (hq : pc + 1 = q) (k : Go p e below Φ (T.setTop (mkF m q L (.int (lcmpW x y) :: S)))) : Go p e below Φ (T.setTop (mkF m pc L (.long y :: .long x :: S))) := by
  subst hq; exact Go.by (fun _ => XS.lcmp hA hx rfl hd rfl) k
theorem g_iinc (hA : At T m c below) (hx : p.tables.exec = Jvm.exec) {j : Nat} {i : Int} {x v : Int32} {L' : Array Slot} (hd : decode c.code pc = .ok (.iinc j i, 3)) (hl : L[j]? = some (.val (.int x))) (hv : x + Int32.ofInt i = v) (hl' : storeLocals L j (.int v) = some L') (hq : pc + 3 = q) (k : Go p e below Φ (T.setTop (mkF m q L' S))) : Go p e below Φ (T.setTop (mkF m pc L S)) := by
  subst hq; exact Go.by (fun _ => XS.iinc hA hx rfl hd hl (by rw [hv]; exact hl')) k
theorem g_dup (hA : At T m c below) (hx : p.tables.exec = Jvm.exec) {v : Value} (hd : decode c.code pc = .ok (.dup, 1)) (hv : v.category = 1) (hq : pc + 1 = q) (k : Go p e below Φ (T.setTop (mkF m q L (v :: v :: S)))) : Go p e below Φ (T.setTop (mkF m pc L (v :: S))) := by
  subst hq; exact Go.by (fun _ => XS.dup hA hx rfl hd rfl hv) k
theorem g_pop (hA : At T m c below) (hx : p.tables.exec = Jvm.exec) {v : Value} (hd : decode c.code pc = .ok (.pop, 1)) (hv : v.category = 1) (hq : pc + 1 = q) (k : Go p e below Φ (T.setTop (mkF m q L S))) : Go p e below Φ (T.setTop (mkF m pc L (v :: S))) := by
  subst hq; exact Go.by (fun _ => XS.pop hA hx rfl hd rfl hv) k
theorem g_dupX1 (hA : At T m c below) (hx : p.tables.exec = Jvm.exec) {v w : Value} (hd : decode c.code pc = .ok (.dup_x1, 1)) (hv : v.category = 1) (hw' : w.category = 1) (hq : pc + 1 = q) (k : Go p e below Φ (T.setTop (mkF m q L (v :: w :: v :: S)))) : Go p e below Φ (T.setTop (mkF m pc L (v :: w :: S))) := by
  subst hq; exact Go.by (fun _ => XS.dupX1 hA hx rfl hd rfl hv hw') k
theorem g_dup2 (hA : At T m c below) (hx : p.tables.exec = Jvm.exec) {v w : Value} (hd : decode c.code pc = .ok (.dup2, 1)) (hv : v.category = 1) (hw' : w.category = 1) (hq : pc + 1 = q) (k : Go p e below Φ (T.setTop (mkF m q L (v :: w :: v :: w :: S)))) : Go p e below Φ (T.setTop (mkF m pc L (v :: w :: S))) := by
  subst hq; exact Go.by (fun _ => Jvm.Free.XT.dup2 hA hx rfl hd rfl hv hw') k
theorem g_goto (hA : At T m c below) (hx : p.tables.exec = Jvm.exec) {o : Int} (hd : decode c.code pc = .ok (.goto o, 3)) (ho : 0 ≤ (pc : Int) + o) (hq : ((pc : Int) + o).toNat = q) (k : Go p e below Φ (T.setTop (mkF m q L S))) : Go p e below Φ (T.setTop (mkF m pc L S)) := Go.by (fun _ => XS.goto hA hx rfl rfl hd ho hq) k
theorem g_icmp (hA : At T m c below) (hx : p.tables.exec = Jvm.exec) {cd : ClassFile.Cond} {o : Int} {q0 : Nat} {x y : Int32} (hd : decode c.code pc = .ok (.if_icmp cd o, 3)) (ho : 0 ≤ (pc : Int) + o) (hq : ((pc : Int) + o).toNat = q) (hq0 : pc + 3 = q0) (k1 : if_icmp.holds cd x y = true → Go p e below Φ (T.setTop (mkF m q L S))) (k0 : if_icmp.holds cd x y = false → Go p e below Φ (T.setTop (mkF m q0 L S))) : Go p e below Φ (T.setTop (mkF m pc L (.int y :: .int x :: S))) := by
  subst hq0
  cases hb : if_icmp.holds cd x y
  · exact Go.by (fun _ => XS.icmpNo hA hx rfl hd rfl hb) (k0 hb)
  · exact Go.by (fun _ => XS.icmpYes hA hx rfl rfl hd rfl hb ho hq) (k1 hb)
theorem g_if0 (hA : At T m c below) (hx : p.tables.exec = Jvm.exec) {cd : ClassFile.Cond} {o : Int} {q0 : Nat} {x : Int32} (hd : decode c.code pc = .ok (.ifCond cd o, 3)) (ho : 0 ≤ (pc : Int) + o) (hq : ((pc : Int) + o).toNat = q) (hq0 : pc + 3 = q0) (k1 : if_icmp.holds cd x 0 = true → Go p e below Φ (T.setTop (mkF m q L S))) (k0 : if_icmp.holds cd x 0 = false → Go p e below Φ (T.setTop (mkF m q0 L S))) : Go p e below Φ (T.setTop (mkF m pc L (.int x :: S))) := by
  subst hq0
  cases hb : if_icmp.holds cd x 0
  · exact Go.by (fun _ => XS.ifNo hA hx rfl hd rfl ((if0 _ _).trans hb)) (k0 hb)
  · exact Go.by (fun _ => XS.ifYes hA hx rfl rfl hd rfl ((if0 _ _).trans hb) ho hq) (k1 hb)
theorem rel_eq {x y : Int32} : (if_icmp.holds .eq x y = true → x.toInt = y.toInt) ∧ (if_icmp.holds .eq x y = false → x.toInt ≠ y.toInt) := by
  constructor <;> intro h <;> simp [if_icmp.holds, Int32.lt_iff_toInt_lt, Int32.le_iff_toInt_le, ← Int32.toInt_inj] at h <;> omega
theorem g_icmp_eq (hA : At T m c below) (hx : p.tables.exec = Jvm.exec) {o : Int} {q0 : Nat} {x y : Int32} (hd : decode c.code pc = .ok (.if_icmp .eq o, 3)) (ho : 0 ≤ (pc : Int) + o) (hq : ((pc : Int) + o).toNat = q) (hq0 : pc + 3 = q0) (k1 : x.toInt = y.toInt → Go p e below Φ (T.setTop (mkF m q L S))) (k0 : x.toInt ≠ y.toInt → Go p e below Φ (T.setTop (mkF m q0 L S))) : Go p e below Φ (T.setTop (mkF m pc L (.int y :: .int x :: S))) := g_icmp hA hx hd ho hq hq0 (fun h => k1 (rel_eq.1 h)) (fun h => k0 (rel_eq.2 h))
theorem g_if_eq (hA : At T m c below) (hx : p.tables.exec = Jvm.exec) {o : Int} {q0 : Nat} {x : Int32} (hd : decode c.code pc = .ok (.ifCond .eq o, 3)) (ho : 0 ≤ (pc : Int) + o) (hq : ((pc : Int) + o).toNat = q) (hq0 : pc + 3 = q0) (k1 : x.toInt = 0 → Go p e below Φ (T.setTop (mkF m q L S))) (k0 : x.toInt ≠ 0 → Go p e below Φ (T.setTop (mkF m q0 L S))) : Go p e below Φ (T.setTop (mkF m pc L (.int x :: S))) := g_if0 hA hx hd ho hq hq0 (fun h => k1 (rel_eq.1 h)) (fun h => k0 (rel_eq.2 h))
theorem rell_eq {x y : Int64} : (if_icmp.holds .eq (lcmpW x y) 0 = true → x.toInt = y.toInt) ∧ (if_icmp.holds .eq (lcmpW x y) 0 = false → x.toInt ≠ y.toInt) := by
  have q := c_lcmp x y
  constructor <;> intro h
  · have h' := (rel_eq (x := lcmpW x y) (y := 0)).1 h; rw [show (0 : Int32).toInt = 0 from rfl] at h'; generalize lcmpW x y = w at *; omega
  · have h' := (rel_eq (x := lcmpW x y) (y := 0)).2 h; rw [show (0 : Int32).toInt = 0 from rfl] at h'; generalize lcmpW x y = w at *; omega
theorem g_lcmp_eq (hA : At T m c below) (hx : p.tables.exec = Jvm.exec) {o : Int} {q1 q0 : Nat} {x y : Int64} (hd : decode c.code pc = .ok (.lcmp, 1)) (hq1 : pc + 1 = q1) (hd' : decode c.code q1 = .ok (.ifCond .eq o, 3)) (ho : 0 ≤ (q1 : Int) + o) (hq : ((q1 : Int) + o).toNat = q) (hq0 : q1 + 3 = q0) (k1 : x.toInt = y.toInt → Go p e below Φ (T.setTop (mkF m q L S))) (k0 : x.toInt ≠ y.toInt → Go p e below Φ (T.setTop (mkF m q0 L S))) : Go p e below Φ (T.setTop (mkF m pc L (.long y :: .long x :: S))) := g_lcmp hA hx hd hq1 (g_if0 hA hx hd' ho hq hq0 (fun h => k1 (rell_eq.1 h)) (fun h => k0 (rell_eq.2 h)))
theorem rel_ne {x y : Int32} : (if_icmp.holds .ne x y = true → x.toInt ≠ y.toInt) ∧ (if_icmp.holds .ne x y = false → x.toInt = y.toInt) := by
  constructor <;> intro h <;> simp [if_icmp.holds, Int32.lt_iff_toInt_lt, Int32.le_iff_toInt_le, ← Int32.toInt_inj] at h <;> omega
theorem g_icmp_ne (hA : At T m c below) (hx : p.tables.exec = Jvm.exec) {o : Int} {q0 : Nat} {x y : Int32} (hd : decode c.code pc = .ok (.if_icmp .ne o, 3)) (ho : 0 ≤ (pc : Int) + o) (hq : ((pc : Int) + o).toNat = q) (hq0 : pc + 3 = q0) (k1 : x.toInt ≠ y.toInt → Go p e below Φ (T.setTop (mkF m q L S))) (k0 : x.toInt = y.toInt → Go p e below Φ (T.setTop (mkF m q0 L S))) : Go p e below Φ (T.setTop (mkF m pc L (.int y :: .int x :: S))) := g_icmp hA hx hd ho hq hq0 (fun h => k1 (rel_ne.1 h)) (fun h => k0 (rel_ne.2 h))
theorem g_if_ne (hA : At T m c below) (hx : p.tables.exec = Jvm.exec) {o : Int} {q0 : Nat} {x : Int32} (hd : decode c.code pc = .ok (.ifCond .ne o, 3)) (ho : 0 ≤ (pc : Int) + o) (hq : ((pc : Int) + o).toNat = q) (hq0 : pc + 3 = q0) (k1 : x.toInt ≠ 0 → Go p e below Φ (T.setTop (mkF m q L S))) (k0 : x.toInt = 0 → Go p e below Φ (T.setTop (mkF m q0 L S))) : Go p e below Φ (T.setTop (mkF m pc L (.int x :: S))) := g_if0 hA hx hd ho hq hq0 (fun h => k1 (rel_ne.1 h)) (fun h => k0 (rel_ne.2 h))
theorem rell_ne {x y : Int64} : (if_icmp.holds .ne (lcmpW x y) 0 = true → x.toInt ≠ y.toInt) ∧ (if_icmp.holds .ne (lcmpW x y) 0 = false → x.toInt = y.toInt) := by
  have q := c_lcmp x y
  constructor <;> intro h
  · have h' := (rel_ne (x := lcmpW x y) (y := 0)).1 h; rw [show (0 : Int32).toInt = 0 from rfl] at h'; generalize lcmpW x y = w at *; omega
  · have h' := (rel_ne (x := lcmpW x y) (y := 0)).2 h; rw [show (0 : Int32).toInt = 0 from rfl] at h'; generalize lcmpW x y = w at *; omega
theorem g_lcmp_ne (hA : At T m c below) (hx : p.tables.exec = Jvm.exec) {o : Int} {q1 q0 : Nat} {x y : Int64} (hd : decode c.code pc = .ok (.lcmp, 1)) (hq1 : pc + 1 = q1) (hd' : decode c.code q1 = .ok (.ifCond .ne o, 3)) (ho : 0 ≤ (q1 : Int) + o) (hq : ((q1 : Int) + o).toNat = q) (hq0 : q1 + 3 = q0) (k1 : x.toInt ≠ y.toInt → Go p e below Φ (T.setTop (mkF m q L S))) (k0 : x.toInt = y.toInt → Go p e below Φ (T.setTop (mkF m q0 L S))) : Go p e below Φ (T.setTop (mkF m pc L (.long y :: .long x :: S))) := g_lcmp hA hx hd hq1 (g_if0 hA hx hd' ho hq hq0 (fun h => k1 (rell_ne.1 h)) (fun h => k0 (rell_ne.2 h)))
theorem rel_lt {x y : Int32} : (if_icmp.holds .lt x y = true → x.toInt < y.toInt) ∧ (if_icmp.holds .lt x y = false → y.toInt ≤ x.toInt) := by
  constructor <;> intro h <;> simp [if_icmp.holds, Int32.lt_iff_toInt_lt, Int32.le_iff_toInt_le, ← Int32.toInt_inj] at h <;> omega
theorem g_icmp_lt (hA : At T m c below) (hx : p.tables.exec = Jvm.exec) {o : Int} {q0 : Nat} {x y : Int32} (hd : decode c.code pc = .ok (.if_icmp .lt o, 3)) (ho : 0 ≤ (pc : Int) + o) (hq : ((pc : Int) + o).toNat = q) (hq0 : pc + 3 = q0) (k1 : x.toInt < y.toInt → Go p e below Φ (T.setTop (mkF m q L S))) (k0 : y.toInt ≤ x.toInt → Go p e below Φ (T.setTop (mkF m q0 L S))) : Go p e below Φ (T.setTop (mkF m pc L (.int y :: .int x :: S))) := g_icmp hA hx hd ho hq hq0 (fun h => k1 (rel_lt.1 h)) (fun h => k0 (rel_lt.2 h))
theorem g_if_lt (hA : At T m c below) (hx : p.tables.exec = Jvm.exec) {o : Int} {q0 : Nat} {x : Int32} (hd : decode c.code pc = .ok (.ifCond .lt o, 3)) (ho : 0 ≤ (pc : Int) + o) (hq : ((pc : Int) + o).toNat = q) (hq0 : pc + 3 = q0) (k1 : x.toInt < 0 → Go p e below Φ (T.setTop (mkF m q L S))) (k0 : 0 ≤ x.toInt → Go p e below Φ (T.setTop (mkF m q0 L S))) : Go p e below Φ (T.setTop (mkF m pc L (.int x :: S))) := g_if0 hA hx hd ho hq hq0 (fun h => k1 (rel_lt.1 h)) (fun h => k0 (rel_lt.2 h))
theorem rell_lt {x y : Int64} : (if_icmp.holds .lt (lcmpW x y) 0 = true → x.toInt < y.toInt) ∧ (if_icmp.holds .lt (lcmpW x y) 0 = false → y.toInt ≤ x.toInt) := by
  have q := c_lcmp x y
  constructor <;> intro h
  · have h' := (rel_lt (x := lcmpW x y) (y := 0)).1 h; rw [show (0 : Int32).toInt = 0 from rfl] at h'; generalize lcmpW x y = w at *; omega
  · have h' := (rel_lt (x := lcmpW x y) (y := 0)).2 h; rw [show (0 : Int32).toInt = 0 from rfl] at h'; generalize lcmpW x y = w at *; omega
theorem g_lcmp_lt (hA : At T m c below) (hx : p.tables.exec = Jvm.exec) {o : Int} {q1 q0 : Nat} {x y : Int64} (hd : decode c.code pc = .ok (.lcmp, 1)) (hq1 : pc + 1 = q1) (hd' : decode c.code q1 = .ok (.ifCond .lt o, 3)) (ho : 0 ≤ (q1 : Int) + o) (hq : ((q1 : Int) + o).toNat = q) (hq0 : q1 + 3 = q0) (k1 : x.toInt < y.toInt → Go p e below Φ (T.setTop (mkF m q L S))) (k0 : y.toInt ≤ x.toInt → Go p e below Φ (T.setTop (mkF m q0 L S))) : Go p e below Φ (T.setTop (mkF m pc L (.long y :: .long x :: S))) := g_lcmp hA hx hd hq1 (g_if0 hA hx hd' ho hq hq0 (fun h => k1 (rell_lt.1 h)) (fun h => k0 (rell_lt.2 h)))
theorem rel_ge {x y : Int32} : (if_icmp.holds .ge x y = true → y.toInt ≤ x.toInt) ∧ (if_icmp.holds .ge x y = false → x.toInt < y.toInt) := by
  constructor <;> intro h <;> simp [if_icmp.holds, Int32.lt_iff_toInt_lt, Int32.le_iff_toInt_le, ← Int32.toInt_inj] at h <;> omega
theorem g_icmp_ge (hA : At T m c below) (hx : p.tables.exec = Jvm.exec) {o : Int} {q0 : Nat} {x y : Int32} (hd : decode c.code pc = .ok (.if_icmp .ge o, 3)) (ho : 0 ≤ (pc : Int) + o) (hq : ((pc : Int) + o).toNat = q) (hq0 : pc + 3 = q0) (k1 : y.toInt ≤ x.toInt → Go p e below Φ (T.setTop (mkF m q L S))) (k0 : x.toInt < y.toInt → Go p e below Φ (T.setTop (mkF m q0 L S))) : Go p e below Φ (T.setTop (mkF m pc L (.int y :: .int x :: S))) := g_icmp hA hx hd ho hq hq0 (fun h => k1 (rel_ge.1 h)) (fun h => k0 (rel_ge.2 h))
theorem g_if_ge (hA : At T m c below) (hx : p.tables.exec = Jvm.exec) {o : Int} {q0 : Nat} {x : Int32} (hd : decode c.code pc = .ok (.ifCond .ge o, 3)) (ho : 0 ≤ (pc : Int) + o) (hq : ((pc : Int) + o).toNat = q) (hq0 : pc + 3 = q0) (k1 : 0 ≤ x.toInt → Go p e below Φ (T.setTop (mkF m q L S))) (k0 : x.toInt < 0 → Go p e below Φ (T.setTop (mkF m q0 L S))) : Go p e below Φ (T.setTop (mkF m pc L (.int x :: S))) := g_if0 hA hx hd ho hq hq0 (fun h => k1 (rel_ge.1 h)) (fun h => k0 (rel_ge.2 h))
theorem rell_ge {x y : Int64} : (if_icmp.holds .ge (lcmpW x y) 0 = true → y.toInt ≤ x.toInt) ∧ (if_icmp.holds .ge (lcmpW x y) 0 = false → x.toInt < y.toInt) := by
  have q := c_lcmp x y
  constructor <;> intro h
  · have h' := (rel_ge (x := lcmpW x y) (y := 0)).1 h; rw [show (0 : Int32).toInt = 0 from rfl] at h'; generalize lcmpW x y = w at *; omega
  · have h' := (rel_ge (x := lcmpW x y) (y := 0)).2 h; rw [show (0 : Int32).toInt = 0 from rfl] at h'; generalize lcmpW x y = w at *; omega
theorem g_lcmp_ge (hA : At T m c below) (hx : p.tables.exec = Jvm.exec) {o : Int} {q1 q0 : Nat} {x y : Int64} (hd : decode c.code pc = .ok (.lcmp, 1)) (hq1 : pc + 1 = q1) (hd' : decode c.code q1 = .ok (.ifCond .ge o, 3)) (ho : 0 ≤ (q1 : Int) + o) (hq : ((q1 : Int) + o).toNat = q) (hq0 : q1 + 3 = q0) (k1 : y.toInt ≤ x.toInt → Go p e below Φ (T.setTop (mkF m q L S))) (k0 : x.toInt < y.toInt → Go p e below Φ (T.setTop (mkF m q0 L S))) : Go p e below Φ (T.setTop (mkF m pc L (.long y :: .long x :: S))) := g_lcmp hA hx hd hq1 (g_if0 hA hx hd' ho hq hq0 (fun h => k1 (rell_ge.1 h)) (fun h => k0 (rell_ge.2 h)))
theorem rel_gt {x y : Int32} : (if_icmp.holds .gt x y = true → y.toInt < x.toInt) ∧ (if_icmp.holds .gt x y = false → x.toInt ≤ y.toInt) := by
  constructor <;> intro h <;> simp [if_icmp.holds, Int32.lt_iff_toInt_lt, Int32.le_iff_toInt_le, ← Int32.toInt_inj] at h <;> omega
theorem g_icmp_gt (hA : At T m c below) (hx : p.tables.exec = Jvm.exec) {o : Int} {q0 : Nat} {x y : Int32} (hd : decode c.code pc = .ok (.if_icmp .gt o, 3)) (ho : 0 ≤ (pc : Int) + o) (hq : ((pc : Int) + o).toNat = q) (hq0 : pc + 3 = q0) (k1 : y.toInt < x.toInt → Go p e below Φ (T.setTop (mkF m q L S))) (k0 : x.toInt ≤ y.toInt → Go p e below Φ (T.setTop (mkF m q0 L S))) : Go p e below Φ (T.setTop (mkF m pc L (.int y :: .int x :: S))) := g_icmp hA hx hd ho hq hq0 (fun h => k1 (rel_gt.1 h)) (fun h => k0 (rel_gt.2 h))
theorem g_if_gt (hA : At T m c below) (hx : p.tables.exec = Jvm.exec) {o : Int} {q0 : Nat} {x : Int32} (hd : decode c.code pc = .ok (.ifCond .gt o, 3)) (ho : 0 ≤ (pc : Int) + o) (hq : ((pc : Int) + o).toNat = q) (hq0 : pc + 3 = q0) (k1 : 0 < x.toInt → Go p e below Φ (T.setTop (mkF m q L S))) (k0 : x.toInt ≤ 0 → Go p e below Φ (T.setTop (mkF m q0 L S))) : Go p e below Φ (T.setTop (mkF m pc L (.int x :: S))) := g_if0 hA hx hd ho hq hq0 (fun h => k1 (rel_gt.1 h)) (fun h => k0 (rel_gt.2 h))
theorem rell_gt {x y : Int64} : (if_icmp.holds .gt (lcmpW x y) 0 = true → y.toInt < x.toInt) ∧ (if_icmp.holds .gt (lcmpW x y) 0 = false → x.toInt ≤ y.toInt) := by
  have q := c_lcmp x y
  constructor <;> intro h
  · have h' := (rel_gt (x := lcmpW x y) (y := 0)).1 h; rw [show (0 : Int32).toInt = 0 from rfl] at h'; generalize lcmpW x y = w at *; omega
  · have h' := (rel_gt (x := lcmpW x y) (y := 0)).2 h; rw [show (0 : Int32).toInt = 0 from rfl] at h'; generalize lcmpW x y = w at *; omega
theorem g_lcmp_gt (hA : At T m c below) (hx : p.tables.exec = Jvm.exec) {o : Int} {q1 q0 : Nat} {x y : Int64} (hd : decode c.code pc = .ok (.lcmp, 1)) (hq1 : pc + 1 = q1) (hd' : decode c.code q1 = .ok (.ifCond .gt o, 3)) (ho : 0 ≤ (q1 : Int) + o) (hq : ((q1 : Int) + o).toNat = q) (hq0 : q1 + 3 = q0) (k1 : y.toInt < x.toInt → Go p e below Φ (T.setTop (mkF m q L S))) (k0 : x.toInt ≤ y.toInt → Go p e below Φ (T.setTop (mkF m q0 L S))) : Go p e below Φ (T.setTop (mkF m pc L (.long y :: .long x :: S))) := g_lcmp hA hx hd hq1 (g_if0 hA hx hd' ho hq hq0 (fun h => k1 (rell_gt.1 h)) (fun h => k0 (rell_gt.2 h)))
theorem rel_le {x y : Int32} : (if_icmp.holds .le x y = true → x.toInt ≤ y.toInt) ∧ (if_icmp.holds .le x y = false → y.toInt < x.toInt) := by
  constructor <;> intro h <;> simp [if_icmp.holds, Int32.lt_iff_toInt_lt, Int32.le_iff_toInt_le, ← Int32.toInt_inj] at h <;> omega
theorem g_icmp_le (hA : At T m c below) (hx : p.tables.exec = Jvm.exec) {o : Int} {q0 : Nat} {x y : Int32} (hd : decode c.code pc = .ok (.if_icmp .le o, 3)) (ho : 0 ≤ (pc : Int) + o) (hq : ((pc : Int) + o).toNat = q) (hq0 : pc + 3 = q0) (k1 : x.toInt ≤ y.toInt → Go p e below Φ (T.setTop (mkF m q L S))) (k0 : y.toInt < x.toInt → Go p e below Φ (T.setTop (mkF m q0 L S))) : Go p e below Φ (T.setTop (mkF m pc L (.int y :: .int x :: S))) := g_icmp hA hx hd ho hq hq0 (fun h => k1 (rel_le.1 h)) (fun h => k0 (rel_le.2 h))
theorem g_if_le (hA : At T m c below) (hx : p.tables.exec = Jvm.exec) {o : Int} {q0 : Nat} {x : Int32} (hd : decode c.code pc = .ok (.ifCond .le o, 3)) (ho : 0 ≤ (pc : Int) + o) (hq : ((pc : Int) + o).toNat = q) (hq0 : pc + 3 = q0) (k1 : x.toInt ≤ 0 → Go p e below Φ (T.setTop (mkF m q L S))) (k0 : 0 < x.toInt → Go p e below Φ (T.setTop (mkF m q0 L S))) : Go p e below Φ (T.setTop (mkF m pc L (.int x :: S))) := g_if0 hA hx hd ho hq hq0 (fun h => k1 (rel_le.1 h)) (fun h => k0 (rel_le.2 h))
theorem rell_le {x y : Int64} : (if_icmp.holds .le (lcmpW x y) 0 = true → x.toInt ≤ y.toInt) ∧ (if_icmp.holds .le (lcmpW x y) 0 = false → y.toInt < x.toInt) := by
  have q := c_lcmp x y
  constructor <;> intro h
  · have h' := (rel_le (x := lcmpW x y) (y := 0)).1 h; rw [show (0 : Int32).toInt = 0 from rfl] at h'; generalize lcmpW x y = w at *; omega
  · have h' := (rel_le (x := lcmpW x y) (y := 0)).2 h; rw [show (0 : Int32).toInt = 0 from rfl] at h'; generalize lcmpW x y = w at *; omega
theorem g_lcmp_le (hA : At T m c below) (hx : p.tables.exec = Jvm.exec) {o : Int} {q1 q0 : Nat} {x y : Int64} (hd : decode c.code pc = .ok (.lcmp, 1)) (hq1 : pc + 1 = q1) (hd' : decode c.code q1 = .ok (.ifCond .le o, 3)) (ho : 0 ≤ (q1 : Int) + o) (hq : ((q1 : Int) + o).toNat = q) (hq0 : q1 + 3 = q0) (k1 : x.toInt ≤ y.toInt → Go p e below Φ (T.setTop (mkF m q L S))) (k0 : y.toInt < x.toInt → Go p e below Φ (T.setTop (mkF m q0 L S))) : Go p e below Φ (T.setTop (mkF m pc L (.long y :: .long x :: S))) := g_lcmp hA hx hd hq1 (g_if0 hA hx hd' ho hq hq0 (fun h => k1 (rell_le.1 h)) (fun h => k0 (rell_le.2 h)))
theorem g_ifB_ne (hA : At T m c below) (hx : p.tables.exec = Jvm.exec) {o : Int} {q0 : Nat} {b : Bool} (hd : decode c.code pc = .ok (.ifCond .ne o, 3)) (ho : 0 ≤ (pc : Int) + o) (hq : ((pc : Int) + o).toNat = q) (hq0 : pc + 3 = q0) (k1 : b = true → Go p e below Φ (T.setTop (mkF m q L S))) (k0 : b = false → Go p e below Φ (T.setTop (mkF m q0 L S))) : Go p e below Φ (T.setTop (mkF m pc L (.int (b2i b) :: S))) := g_if0 hA hx hd ho hq hq0 (fun h => k1 (by cases b <;> first | rfl | exact Bool.noConfusion h)) (fun h => k0 (by cases b <;> first | rfl | exact Bool.noConfusion h))
theorem g_ifB_eq (hA : At T m c below) (hx : p.tables.exec = Jvm.exec) {o : Int} {q0 : Nat} {b : Bool} (hd : decode c.code pc = .ok (.ifCond .eq o, 3)) (ho : 0 ≤ (pc : Int) + o) (hq : ((pc : Int) + o).toNat = q) (hq0 : pc + 3 = q0) (k1 : b = false → Go p e below Φ (T.setTop (mkF m q L S))) (k0 : b = true → Go p e below Φ (T.setTop (mkF m q0 L S))) : Go p e below Φ (T.setTop (mkF m pc L (.int (b2i b) :: S))) := g_if0 hA hx hd ho hq hq0 (fun h => k1 (by cases b <;> first | rfl | exact Bool.noConfusion h)) (fun h => k0 (by cases b <;> first | rfl | exact Bool.noConfusion h))
theorem g_sel_icmp_eq (hA : At T m c below) (hx : p.tables.exec = Jvm.exec) {o o' : Int} {z t t' : Nat} {x y : Int32} (hd : decode c.code pc = .ok (.if_icmp .eq o, 3)) (ho : 0 ≤ (pc : Int) + o) (hz' : ((pc : Int) + o).toNat = z) (ht0 : pc + 3 = t) (hz : decode c.code z = .ok (.iconst 0, 1)) (ht : decode c.code t = .ok (.iconst 1, 1)) (hg : decode c.code t' = .ok (.goto o', 3)) (ht' : t + 1 = t') (hog : 0 ≤ (t' : Int) + o') (hj : ((t' : Int) + o').toNat = q) (hj' : z + 1 = q) (k : Go p e below Φ (T.setTop (mkF m q L (.int (b2i (decide (x.toInt ≠ y.toInt))) :: S)))) : Go p e below Φ (T.setTop (mkF m pc L (.int y :: .int x :: S))) :=
  g_icmp_eq hA hx hd ho hz' ht0 (fun h => g_iconst hA hx hz rfl hj' (by rw [show decide (x.toInt ≠ y.toInt) = false from decide_eq_false (by omega)] at k; exact k)) (fun h => g_iconst hA hx ht rfl ht' (g_goto hA hx hg hog hj (by rw [show decide (x.toInt ≠ y.toInt) = true from decide_eq_true (by omega)] at k; exact k)))
theorem g_sel_icmp_ne (hA : At T m c below) (hx : p.tables.exec = Jvm.exec) {o o' : Int} {z t t' : Nat} {x y : Int32} (hd : decode c.code pc = .ok (.if_icmp .ne o, 3)) (ho : 0 ≤ (pc : Int) + o) (hz' : ((pc : Int) + o).toNat = z) (ht0 : pc + 3 = t) (hz : decode c.code z = .ok (.iconst 0, 1)) (ht : decode c.code t = .ok (.iconst 1, 1)) (hg : decode c.code t' = .ok (.goto o', 3)) (ht' : t + 1 = t') (hog : 0 ≤ (t' : Int) + o') (hj : ((t' : Int) + o').toNat = q) (hj' : z + 1 = q) (k : Go p e below Φ (T.setTop (mkF m q L (.int (b2i (decide (x.toInt = y.toInt))) :: S)))) : Go p e below Φ (T.setTop (mkF m pc L (.int y :: .int x :: S))) :=
  g_icmp_ne hA hx hd ho hz' ht0 (fun h => g_iconst hA hx hz rfl hj' (by rw [show decide (x.toInt = y.toInt) = false from decide_eq_false (by omega)] at k; exact k)) (fun h => g_iconst hA hx ht rfl ht' (g_goto hA hx hg hog hj (by rw [show decide (x.toInt = y.toInt) = true from decide_eq_true (by omega)] at k; exact k)))
theorem g_sel_icmp_lt (hA : At T m c below) (hx : p.tables.exec = Jvm.exec) {o o' : Int} {z t t' : Nat} {x y : Int32} (hd : decode c.code pc = .ok (.if_icmp .lt o, 3)) (ho : 0 ≤ (pc : Int) + o) (hz' : ((pc : Int) + o).toNat = z) (ht0 : pc + 3 = t) (hz : decode c.code z = .ok (.iconst 0, 1)) (ht : decode c.code t = .ok (.iconst 1, 1)) (hg : decode c.code t' = .ok (.goto o', 3)) (ht' : t + 1 = t') (hog : 0 ≤ (t' : Int) + o') (hj : ((t' : Int) + o').toNat = q) (hj' : z + 1 = q) (k : Go p e below Φ (T.setTop (mkF m q L (.int (b2i (decide (y.toInt ≤ x.toInt))) :: S)))) : Go p e below Φ (T.setTop (mkF m pc L (.int y :: .int x :: S))) :=
  g_icmp_lt hA hx hd ho hz' ht0 (fun h => g_iconst hA hx hz rfl hj' (by rw [show decide (y.toInt ≤ x.toInt) = false from decide_eq_false (by omega)] at k; exact k)) (fun h => g_iconst hA hx ht rfl ht' (g_goto hA hx hg hog hj (by rw [show decide (y.toInt ≤ x.toInt) = true from decide_eq_true (by omega)] at k; exact k)))
theorem g_sel_icmp_ge (hA : At T m c below) (hx : p.tables.exec = Jvm.exec) {o o' : Int} {z t t' : Nat} {x y : Int32} (hd : decode c.code pc = .ok (.if_icmp .ge o, 3)) (ho : 0 ≤ (pc : Int) + o) (hz' : ((pc : Int) + o).toNat = z) (ht0 : pc + 3 = t) (hz : decode c.code z = .ok (.iconst 0, 1)) (ht : decode c.code t = .ok (.iconst 1, 1)) (hg : decode c.code t' = .ok (.goto o', 3)) (ht' : t + 1 = t') (hog : 0 ≤ (t' : Int) + o') (hj : ((t' : Int) + o').toNat = q) (hj' : z + 1 = q) (k : Go p e below Φ (T.setTop (mkF m q L (.int (b2i (decide (x.toInt < y.toInt))) :: S)))) : Go p e below Φ (T.setTop (mkF m pc L (.int y :: .int x :: S))) :=
  g_icmp_ge hA hx hd ho hz' ht0 (fun h => g_iconst hA hx hz rfl hj' (by rw [show decide (x.toInt < y.toInt) = false from decide_eq_false (by omega)] at k; exact k)) (fun h => g_iconst hA hx ht rfl ht' (g_goto hA hx hg hog hj (by rw [show decide (x.toInt < y.toInt) = true from decide_eq_true (by omega)] at k; exact k)))
theorem g_sel_icmp_gt (hA : At T m c below) (hx : p.tables.exec = Jvm.exec) {o o' : Int} {z t t' : Nat} {x y : Int32} (hd : decode c.code pc = .ok (.if_icmp .gt o, 3)) (ho : 0 ≤ (pc : Int) + o) (hz' : ((pc : Int) + o).toNat = z) (ht0 : pc + 3 = t) (hz : decode c.code z = .ok (.iconst 0, 1)) (ht : decode c.code t = .ok (.iconst 1, 1)) (hg : decode c.code t' = .ok (.goto o', 3)) (ht' : t + 1 = t') (hog : 0 ≤ (t' : Int) + o') (hj : ((t' : Int) + o').toNat = q) (hj' : z + 1 = q) (k : Go p e below Φ (T.setTop (mkF m q L (.int (b2i (decide (x.toInt ≤ y.toInt))) :: S)))) : Go p e below Φ (T.setTop (mkF m pc L (.int y :: .int x :: S))) :=
  g_icmp_gt hA hx hd ho hz' ht0 (fun h => g_iconst hA hx hz rfl hj' (by rw [show decide (x.toInt ≤ y.toInt) = false from decide_eq_false (by omega)] at k; exact k)) (fun h => g_iconst hA hx ht rfl ht' (g_goto hA hx hg hog hj (by rw [show decide (x.toInt ≤ y.toInt) = true from decide_eq_true (by omega)] at k; exact k)))
theorem g_sel_icmp_le (hA : At T m c below) (hx : p.tables.exec = Jvm.exec) {o o' : Int} {z t t' : Nat} {x y : Int32} (hd : decode c.code pc = .ok (.if_icmp .le o, 3)) (ho : 0 ≤ (pc : Int) + o) (hz' : ((pc : Int) + o).toNat = z) (ht0 : pc + 3 = t) (hz : decode c.code z = .ok (.iconst 0, 1)) (ht : decode c.code t = .ok (.iconst 1, 1)) (hg : decode c.code t' = .ok (.goto o', 3)) (ht' : t + 1 = t') (hog : 0 ≤ (t' : Int) + o') (hj : ((t' : Int) + o').toNat = q) (hj' : z + 1 = q) (k : Go p e below Φ (T.setTop (mkF m q L (.int (b2i (decide (y.toInt < x.toInt))) :: S)))) : Go p e below Φ (T.setTop (mkF m pc L (.int y :: .int x :: S))) :=
  g_icmp_le hA hx hd ho hz' ht0 (fun h => g_iconst hA hx hz rfl hj' (by rw [show decide (y.toInt < x.toInt) = false from decide_eq_false (by omega)] at k; exact k)) (fun h => g_iconst hA hx ht rfl ht' (g_goto hA hx hg hog hj (by rw [show decide (y.toInt < x.toInt) = true from decide_eq_true (by omega)] at k; exact k)))
theorem g_sel_if_eq (hA : At T m c below) (hx : p.tables.exec = Jvm.exec) {o o' : Int} {z t t' : Nat} {x : Int32} (hd : decode c.code pc = .ok (.ifCond .eq o, 3)) (ho : 0 ≤ (pc : Int) + o) (hz' : ((pc : Int) + o).toNat = z) (ht0 : pc + 3 = t) (hz : decode c.code z = .ok (.iconst 0, 1)) (ht : decode c.code t = .ok (.iconst 1, 1)) (hg : decode c.code t' = .ok (.goto o', 3)) (ht' : t + 1 = t') (hog : 0 ≤ (t' : Int) + o') (hj : ((t' : Int) + o').toNat = q) (hj' : z + 1 = q) (k : Go p e below Φ (T.setTop (mkF m q L (.int (b2i (decide (x.toInt ≠ 0))) :: S)))) : Go p e below Φ (T.setTop (mkF m pc L (.int x :: S))) :=
  g_if_eq hA hx hd ho hz' ht0 (fun h => g_iconst hA hx hz rfl hj' (by rw [show decide (x.toInt ≠ 0) = false from decide_eq_false (by omega)] at k; exact k)) (fun h => g_iconst hA hx ht rfl ht' (g_goto hA hx hg hog hj (by rw [show decide (x.toInt ≠ 0) = true from decide_eq_true (by omega)] at k; exact k)))
theorem g_sel_if_ne (hA : At T m c below) (hx : p.tables.exec = Jvm.exec) {o o' : Int} {z t t' : Nat} {x : Int32} (hd : decode c.code pc = .ok (.ifCond .ne o, 3)) (ho : 0 ≤ (pc : Int) + o) (hz' : ((pc : Int) + o).toNat = z) (ht0 : pc + 3 = t) (hz : decode c.code z = .ok (.iconst 0, 1)) (ht : decode c.code t = .ok (.iconst 1, 1)) (hg : decode c.code t' = .ok (.goto o', 3)) (ht' : t + 1 = t') (hog : 0 ≤ (t' : Int) + o') (hj : ((t' : Int) + o').toNat = q) (hj' : z + 1 = q) (k : Go p e below Φ (T.setTop (mkF m q L (.int (b2i (decide (x.toInt = 0))) :: S)))) : Go p e below Φ (T.setTop (mkF m pc L (.int x :: S))) :=
  g_if_ne hA hx hd ho hz' ht0 (fun h => g_iconst hA hx hz rfl hj' (by rw [show decide (x.toInt = 0) = false from decide_eq_false (by omega)] at k; exact k)) (fun h => g_iconst hA hx ht rfl ht' (g_goto hA hx hg hog hj (by rw [show decide (x.toInt = 0) = true from decide_eq_true (by omega)] at k; exact k)))
theorem g_sel_if_lt (hA : At T m c below) (hx : p.tables.exec = Jvm.exec) {o o' : Int} {z t t' : Nat} {x : Int32} (hd : decode c.code pc = .ok (.ifCond .lt o, 3)) (ho : 0 ≤ (pc : Int) + o) (hz' : ((pc : Int) + o).toNat = z) (ht0 : pc + 3 = t) (hz : decode c.code z = .ok (.iconst 0, 1)) (ht : decode c.code t = .ok (.iconst 1, 1)) (hg : decode c.code t' = .ok (.goto o', 3)) (ht' : t + 1 = t') (hog : 0 ≤ (t' : Int) + o') (hj : ((t' : Int) + o').toNat = q) (hj' : z + 1 = q) (k : Go p e below Φ (T.setTop (mkF m q L (.int (b2i (decide (0 ≤ x.toInt))) :: S)))) : Go p e below Φ (T.setTop (mkF m pc L (.int x :: S))) :=
  g_if_lt hA hx hd ho hz' ht0 (fun h => g_iconst hA hx hz rfl hj' (by rw [show decide (0 ≤ x.toInt) = false from decide_eq_false (by omega)] at k; exact k)) (fun h => g_iconst hA hx ht rfl ht' (g_goto hA hx hg hog hj (by rw [show decide (0 ≤ x.toInt) = true from decide_eq_true (by omega)] at k; exact k)))
theorem g_sel_if_ge (hA : At T m c below) (hx : p.tables.exec = Jvm.exec) {o o' : Int} {z t t' : Nat} {x : Int32} (hd : decode c.code pc = .ok (.ifCond .ge o, 3)) (ho : 0 ≤ (pc : Int) + o) (hz' : ((pc : Int) + o).toNat = z) (ht0 : pc + 3 = t) (hz : decode c.code z = .ok (.iconst 0, 1)) (ht : decode c.code t = .ok (.iconst 1, 1)) (hg : decode c.code t' = .ok (.goto o', 3)) (ht' : t + 1 = t') (hog : 0 ≤ (t' : Int) + o') (hj : ((t' : Int) + o').toNat = q) (hj' : z + 1 = q) (k : Go p e below Φ (T.setTop (mkF m q L (.int (b2i (decide (x.toInt < 0))) :: S)))) : Go p e below Φ (T.setTop (mkF m pc L (.int x :: S))) :=
  g_if_ge hA hx hd ho hz' ht0 (fun h => g_iconst hA hx hz rfl hj' (by rw [show decide (x.toInt < 0) = false from decide_eq_false (by omega)] at k; exact k)) (fun h => g_iconst hA hx ht rfl ht' (g_goto hA hx hg hog hj (by rw [show decide (x.toInt < 0) = true from decide_eq_true (by omega)] at k; exact k)))
theorem g_sel_if_gt (hA : At T m c below) (hx : p.tables.exec = Jvm.exec) {o o' : Int} {z t t' : Nat} {x : Int32} (hd : decode c.code pc = .ok (.ifCond .gt o, 3)) (ho : 0 ≤ (pc : Int) + o) (hz' : ((pc : Int) + o).toNat = z) (ht0 : pc + 3 = t) (hz : decode c.code z = .ok (.iconst 0, 1)) (ht : decode c.code t = .ok (.iconst 1, 1)) (hg : decode c.code t' = .ok (.goto o', 3)) (ht' : t + 1 = t') (hog : 0 ≤ (t' : Int) + o') (hj : ((t' : Int) + o').toNat = q) (hj' : z + 1 = q) (k : Go p e below Φ (T.setTop (mkF m q L (.int (b2i (decide (x.toInt ≤ 0))) :: S)))) : Go p e below Φ (T.setTop (mkF m pc L (.int x :: S))) :=
  g_if_gt hA hx hd ho hz' ht0 (fun h => g_iconst hA hx hz rfl hj' (by rw [show decide (x.toInt ≤ 0) = false from decide_eq_false (by omega)] at k; exact k)) (fun h => g_iconst hA hx ht rfl ht' (g_goto hA hx hg hog hj (by rw [show decide (x.toInt ≤ 0) = true from decide_eq_true (by omega)] at k; exact k)))
theorem g_sel_if_le (hA : At T m c below) (hx : p.tables.exec = Jvm.exec) {o o' : Int} {z t t' : Nat} {x : Int32} (hd : decode c.code pc = .ok (.ifCond .le o, 3)) (ho : 0 ≤ (pc : Int) + o) (hz' : ((pc : Int) + o).toNat = z) (ht0 : pc + 3 = t) (hz : decode c.code z = .ok (.iconst 0, 1)) (ht : decode c.code t = .ok (.iconst 1, 1)) (hg : decode c.code t' = .ok (.goto o', 3)) (ht' : t + 1 = t') (hog : 0 ≤ (t' : Int) + o') (hj : ((t' : Int) + o').toNat = q) (hj' : z + 1 = q) (k : Go p e below Φ (T.setTop (mkF m q L (.int (b2i (decide (0 < x.toInt))) :: S)))) : Go p e below Φ (T.setTop (mkF m pc L (.int x :: S))) :=
  g_if_le hA hx hd ho hz' ht0 (fun h => g_iconst hA hx hz rfl hj' (by rw [show decide (0 < x.toInt) = false from decide_eq_false (by omega)] at k; exact k)) (fun h => g_iconst hA hx ht rfl ht' (g_goto hA hx hg hog hj (by rw [show decide (0 < x.toInt) = true from decide_eq_true (by omega)] at k; exact k)))
theorem g_sel_lcmp_eq (hA : At T m c below) (hx : p.tables.exec = Jvm.exec) {o o' : Int} {q1 z t t' : Nat} {x y : Int64} (hd : decode c.code pc = .ok (.lcmp, 1)) (hq1 : pc + 1 = q1) (hd' : decode c.code q1 = .ok (.ifCond .eq o, 3)) (ho : 0 ≤ (q1 : Int) + o) (hz' : ((q1 : Int) + o).toNat = z) (ht0 : q1 + 3 = t) (hz : decode c.code z = .ok (.iconst 0, 1)) (ht : decode c.code t = .ok (.iconst 1, 1)) (hg : decode c.code t' = .ok (.goto o', 3)) (ht' : t + 1 = t') (hog : 0 ≤ (t' : Int) + o') (hj : ((t' : Int) + o').toNat = q) (hj' : z + 1 = q) (k : Go p e below Φ (T.setTop (mkF m q L (.int (b2i (decide (x.toInt ≠ y.toInt))) :: S)))) : Go p e below Φ (T.setTop (mkF m pc L (.long y :: .long x :: S))) :=
  g_lcmp_eq hA hx hd hq1 hd' ho hz' ht0 (fun h => g_iconst hA hx hz rfl hj' (by rw [show decide (x.toInt ≠ y.toInt) = false from decide_eq_false (by omega)] at k; exact k)) (fun h => g_iconst hA hx ht rfl ht' (g_goto hA hx hg hog hj (by rw [show decide (x.toInt ≠ y.toInt) = true from decide_eq_true (by omega)] at k; exact k)))
theorem g_sel_lcmp_ne (hA : At T m c below) (hx : p.tables.exec = Jvm.exec) {o o' : Int} {q1 z t t' : Nat} {x y : Int64} (hd : decode c.code pc = .ok (.lcmp, 1)) (hq1 : pc + 1 = q1) (hd' : decode c.code q1 = .ok (.ifCond .ne o, 3)) (ho : 0 ≤ (q1 : Int) + o) (hz' : ((q1 : Int) + o).toNat = z) (ht0 : q1 + 3 = t) (hz : decode c.code z = .ok (.iconst 0, 1)) (ht : decode c.code t = .ok (.iconst 1, 1)) (hg : decode c.code t' = .ok (.goto o', 3)) (ht' : t + 1 = t') (hog : 0 ≤ (t' : Int) + o') (hj : ((t' : Int) + o').toNat = q) (hj' : z + 1 = q) (k : Go p e below Φ (T.setTop (mkF m q L (.int (b2i (decide (x.toInt = y.toInt))) :: S)))) : Go p e below Φ (T.setTop (mkF m pc L (.long y :: .long x :: S))) :=
  g_lcmp_ne hA hx hd hq1 hd' ho hz' ht0 (fun h => g_iconst hA hx hz rfl hj' (by rw [show decide (x.toInt = y.toInt) = false from decide_eq_false (by omega)] at k; exact k)) (fun h => g_iconst hA hx ht rfl ht' (g_goto hA hx hg hog hj (by rw [show decide (x.toInt = y.toInt) = true from decide_eq_true (by omega)] at k; exact k)))
theorem g_sel_lcmp_lt (hA : At T m c below) (hx : p.tables.exec = Jvm.exec) {o o' : Int} {q1 z t t' : Nat} {x y : Int64} (hd : decode c.code pc = .ok (.lcmp, 1)) (hq1 : pc + 1 = q1) (hd' : decode c.code q1 = .ok (.ifCond .lt o, 3)) (ho : 0 ≤ (q1 : Int) + o) (hz' : ((q1 : Int) + o).toNat = z) (ht0 : q1 + 3 = t) (hz : decode c.code z = .ok (.iconst 0, 1)) (ht : decode c.code t = .ok (.iconst 1, 1)) (hg : decode c.code t' = .ok (.goto o', 3)) (ht' : t + 1 = t') (hog : 0 ≤ (t' : Int) + o') (hj : ((t' : Int) + o').toNat = q) (hj' : z + 1 = q) (k : Go p e below Φ (T.setTop (mkF m q L (.int (b2i (decide (y.toInt ≤ x.toInt))) :: S)))) : Go p e below Φ (T.setTop (mkF m pc L (.long y :: .long x :: S))) :=
  g_lcmp_lt hA hx hd hq1 hd' ho hz' ht0 (fun h => g_iconst hA hx hz rfl hj' (by rw [show decide (y.toInt ≤ x.toInt) = false from decide_eq_false (by omega)] at k; exact k)) (fun h => g_iconst hA hx ht rfl ht' (g_goto hA hx hg hog hj (by rw [show decide (y.toInt ≤ x.toInt) = true from decide_eq_true (by omega)] at k; exact k)))
theorem g_sel_lcmp_ge (hA : At T m c below) (hx : p.tables.exec = Jvm.exec) {o o' : Int} {q1 z t t' : Nat} {x y : Int64} (hd : decode c.code pc = .ok (.lcmp, 1)) (hq1 : pc + 1 = q1) (hd' : decode c.code q1 = .ok (.ifCond .ge o, 3)) (ho : 0 ≤ (q1 : Int) + o) (hz' : ((q1 : Int) + o).toNat = z) (ht0 : q1 + 3 = t) (hz : decode c.code z = .ok (.iconst 0, 1)) (ht : decode c.code t = .ok (.iconst 1, 1)) (hg : decode c.code t' = .ok (.goto o', 3)) (ht' : t + 1 = t') (hog : 0 ≤ (t' : Int) + o') (hj : ((t' : Int) + o').toNat = q) (hj' : z + 1 = q) (k : Go p e below Φ (T.setTop (mkF m q L (.int (b2i (decide (x.toInt < y.toInt))) :: S)))) : Go p e below Φ (T.setTop (mkF m pc L (.long y :: .long x :: S))) :=
  g_lcmp_ge hA hx hd hq1 hd' ho hz' ht0 (fun h => g_iconst hA hx hz rfl hj' (by rw [show decide (x.toInt < y.toInt) = false from decide_eq_false (by omega)] at k; exact k)) (fun h => g_iconst hA hx ht rfl ht' (g_goto hA hx hg hog hj (by rw [show decide (x.toInt < y.toInt) = true from decide_eq_true (by omega)] at k; exact k)))
theorem g_sel_lcmp_gt (hA : At T m c below) (hx : p.tables.exec = Jvm.exec) {o o' : Int} {q1 z t t' : Nat} {x y : Int64} (hd : decode c.code pc = .ok (.lcmp, 1)) (hq1 : pc + 1 = q1) (hd' : decode c.code q1 = .ok (.ifCond .gt o, 3)) (ho : 0 ≤ (q1 : Int) + o) (hz' : ((q1 : Int) + o).toNat = z) (ht0 : q1 + 3 = t) (hz : decode c.code z = .ok (.iconst 0, 1)) (ht : decode c.code t = .ok (.iconst 1, 1)) (hg : decode c.code t' = .ok (.goto o', 3)) (ht' : t + 1 = t') (hog : 0 ≤ (t' : Int) + o') (hj : ((t' : Int) + o').toNat = q) (hj' : z + 1 = q) (k : Go p e below Φ (T.setTop (mkF m q L (.int (b2i (decide (x.toInt ≤ y.toInt))) :: S)))) : Go p e below Φ (T.setTop (mkF m pc L (.long y :: .long x :: S))) :=
  g_lcmp_gt hA hx hd hq1 hd' ho hz' ht0 (fun h => g_iconst hA hx hz rfl hj' (by rw [show decide (x.toInt ≤ y.toInt) = false from decide_eq_false (by omega)] at k; exact k)) (fun h => g_iconst hA hx ht rfl ht' (g_goto hA hx hg hog hj (by rw [show decide (x.toInt ≤ y.toInt) = true from decide_eq_true (by omega)] at k; exact k)))
theorem g_sel_lcmp_le (hA : At T m c below) (hx : p.tables.exec = Jvm.exec) {o o' : Int} {q1 z t t' : Nat} {x y : Int64} (hd : decode c.code pc = .ok (.lcmp, 1)) (hq1 : pc + 1 = q1) (hd' : decode c.code q1 = .ok (.ifCond .le o, 3)) (ho : 0 ≤ (q1 : Int) + o) (hz' : ((q1 : Int) + o).toNat = z) (ht0 : q1 + 3 = t) (hz : decode c.code z = .ok (.iconst 0, 1)) (ht : decode c.code t = .ok (.iconst 1, 1)) (hg : decode c.code t' = .ok (.goto o', 3)) (ht' : t + 1 = t') (hog : 0 ≤ (t' : Int) + o') (hj : ((t' : Int) + o').toNat = q) (hj' : z + 1 = q) (k : Go p e below Φ (T.setTop (mkF m q L (.int (b2i (decide (y.toInt < x.toInt))) :: S)))) : Go p e below Φ (T.setTop (mkF m pc L (.long y :: .long x :: S))) :=
  g_lcmp_le hA hx hd hq1 hd' ho hz' ht0 (fun h => g_iconst hA hx hz rfl hj' (by rw [show decide (y.toInt < x.toInt) = false from decide_eq_false (by omega)] at k; exact k)) (fun h => g_iconst hA hx ht rfl ht' (g_goto hA hx hg hog hj (by rw [show decide (y.toInt < x.toInt) = true from decide_eq_true (by omega)] at k; exact k)))
theorem g_selB_ne (hA : At T m c below) (hx : p.tables.exec = Jvm.exec) {o o' : Int} {z t t' : Nat} {b : Bool} (hd : decode c.code pc = .ok (.ifCond .ne o, 3)) (ho : 0 ≤ (pc : Int) + o) (hz' : ((pc : Int) + o).toNat = z) (ht0 : pc + 3 = t) (hz : decode c.code z = .ok (.iconst 0, 1)) (ht : decode c.code t = .ok (.iconst 1, 1)) (hg : decode c.code t' = .ok (.goto o', 3)) (ht' : t + 1 = t') (hog : 0 ≤ (t' : Int) + o') (hj : ((t' : Int) + o').toNat = q) (hj' : z + 1 = q) (k : Go p e below Φ (T.setTop (mkF m q L (.int (b2i (!b)) :: S)))) : Go p e below Φ (T.setTop (mkF m pc L (.int (b2i b) :: S))) :=
  g_ifB_ne hA hx hd ho hz' ht0 (fun h => g_iconst hA hx hz rfl hj' (by subst h; exact k)) (fun h => g_iconst hA hx ht rfl ht' (g_goto hA hx hg hog hj (by subst h; exact k)))
theorem g_selB_eq (hA : At T m c below) (hx : p.tables.exec = Jvm.exec) {o o' : Int} {z t t' : Nat} {b : Bool} (hd : decode c.code pc = .ok (.ifCond .eq o, 3)) (ho : 0 ≤ (pc : Int) + o) (hz' : ((pc : Int) + o).toNat = z) (ht0 : pc + 3 = t) (hz : decode c.code z = .ok (.iconst 0, 1)) (ht : decode c.code t = .ok (.iconst 1, 1)) (hg : decode c.code t' = .ok (.goto o', 3)) (ht' : t + 1 = t') (hog : 0 ≤ (t' : Int) + o') (hj : ((t' : Int) + o').toNat = q) (hj' : z + 1 = q) (k : Go p e below Φ (T.setTop (mkF m q L (.int (b2i (b)) :: S)))) : Go p e below Φ (T.setTop (mkF m pc L (.int (b2i b) :: S))) :=
  g_ifB_eq hA hx hd ho hz' ht0 (fun h => g_iconst hA hx hz rfl hj' (by subst h; exact k)) (fun h => g_iconst hA hx ht rfl ht' (g_goto hA hx hg hog hj (by subst h; exact k)))
theorem g_selBB_ne (hA : At T m c below) (hx : p.tables.exec = Jvm.exec) {o o' : Int} {z t t' : Nat} {a b : Bool} (hd : decode c.code pc = .ok (.if_icmp .ne o, 3)) (ho : 0 ≤ (pc : Int) + o) (hz' : ((pc : Int) + o).toNat = z) (ht0 : pc + 3 = t) (hz : decode c.code z = .ok (.iconst 0, 1)) (ht : decode c.code t = .ok (.iconst 1, 1)) (hg : decode c.code t' = .ok (.goto o', 3)) (ht' : t + 1 = t') (hog : 0 ≤ (t' : Int) + o') (hj : ((t' : Int) + o').toNat = q) (hj' : z + 1 = q) (k : Go p e below Φ (T.setTop (mkF m q L (.int (b2i (a == b)) :: S)))) : Go p e below Φ (T.setTop (mkF m pc L (.int (b2i b) :: .int (b2i a) :: S))) :=
  g_icmp hA hx hd ho hz' ht0 (fun h => g_iconst hA hx hz rfl hj' (by cases a <;> cases b <;> first | exact k | exact Bool.noConfusion h)) (fun h => g_iconst hA hx ht rfl ht' (g_goto hA hx hg hog hj (by cases a <;> cases b <;> first | exact k | exact Bool.noConfusion h)))
theorem g_selBB_eq (hA : At T m c below) (hx : p.tables.exec = Jvm.exec) {o o' : Int} {z t t' : Nat} {a b : Bool} (hd : decode c.code pc = .ok (.if_icmp .eq o, 3)) (ho : 0 ≤ (pc : Int) + o) (hz' : ((pc : Int) + o).toNat = z) (ht0 : pc + 3 = t) (hz : decode c.code z = .ok (.iconst 0, 1)) (ht : decode c.code t = .ok (.iconst 1, 1)) (hg : decode c.code t' = .ok (.goto o', 3)) (ht' : t + 1 = t') (hog : 0 ≤ (t' : Int) + o') (hj : ((t' : Int) + o').toNat = q) (hj' : z + 1 = q) (k : Go p e below Φ (T.setTop (mkF m q L (.int (b2i (a != b)) :: S)))) : Go p e below Φ (T.setTop (mkF m pc L (.int (b2i b) :: .int (b2i a) :: S))) :=
  g_icmp hA hx hd ho hz' ht0 (fun h => g_iconst hA hx hz rfl hj' (by cases a <;> cases b <;> first | exact k | exact Bool.noConfusion h)) (fun h => g_iconst hA hx ht rfl ht' (g_goto hA hx hg hog hj (by cases a <;> cases b <;> first | exact k | exact Bool.noConfusion h)))
theorem g_ldcI (X : Stand p l e R s m args below meth c T locs cells slots) (hx : p.tables.exec = Jvm.exec) (hZ : Z.Warmed39 s.vm) {own : String} {index : Nat} {v : Int32} (hown : s.vm.findClass own = some m.cls) (w : (Jvm.Cond.constant own index v).before a0 Z = true) (hd : decode c.code pc = .ok (.ldc index, 2)) (hq : pc + 2 = q) (k : Go p e below Φ (T.setTop (mkF m q L (.int v :: S)))) : Go p e below Φ (T.setTop (mkF m pc L S)) := by
  subst hq; exact Go.by (X.ldcInt hx hown (mvT hZ w) rfl hd) k
theorem g_ldcWI (X : Stand p l e R s m args below meth c T locs cells slots) (hx : p.tables.exec = Jvm.exec) (hZ : Z.Warmed39 s.vm) {own : String} {index : Nat} {v : Int32} (hown : s.vm.findClass own = some m.cls) (w : (Jvm.Cond.constant own index v).before a0 Z = true) (hd : decode c.code pc = .ok (.ldc_w index, 3)) (hq : pc + 3 = q) (k : Go p e below Φ (T.setTop (mkF m q L (.int v :: S)))) : Go p e below Φ (T.setTop (mkF m pc L S)) := by
  subst hq; exact Go.by (X.ldcWInt hx hown (mvT hZ w) rfl hd) k
theorem g_ldc2J (X : Stand p l e R s m args below meth c T locs cells slots) (hx : p.tables.exec = Jvm.exec) (hZ : Z.Warmed39 s.vm) {own : String} {index : Nat} {v : Int64} (hown : s.vm.findClass own = some m.cls) (w : (Jvm.Cond.constantLong own index v).before a0 Z = true) (hd : decode c.code pc = .ok (.ldc2_w index, 3)) (hq : pc + 3 = q) (k : Go p e below Φ (T.setTop (mkF m q L (.long v :: S)))) : Go p e below Φ (T.setTop (mkF m pc L S)) := by
  subst hq; exact Go.by (X.ldc2Long hx hown (mvT hZ w) rfl hd) k
theorem g_ireturn (X : Stand p l e R s m args below meth c T locs cells slots) (hx : p.tables.exec = Jvm.exec) {Q : Option Value → Heap → List Loc → Prop} {rm : Room} (hlk : meth.locks = false) {z : Int32} (hrt : meth.sig.returnType = some .int) (hd : decode c.code pc = .ok (.ireturn, 1)) (hc : cells ≤ rm.cells) (hs : slots ≤ rm.slots) (hQ : Q (some (.int z)) T.heap locs) : Go p e below (Fin0 s rm Q) (T.setTop (mkF m pc L (.int z :: S))) := by
  obtain ⟨fs, hr, hrun, hended, hW, hsame⟩ := X.leave (v := (some (.int z))) (fun h => by rw [hrt] at h; cases h) hlk
  exact ⟨_, _, retOut X hx hrt rfl (Or.inl ⟨rfl, Or.inl rfl, z, rfl⟩) hd hr, hrun, hended, _, _, rfl, hQ, ⟨_, rfl⟩, hW, hsame.mono hc hs⟩
theorem g_lreturn (X : Stand p l e R s m args below meth c T locs cells slots) (hx : p.tables.exec = Jvm.exec) {Q : Option Value → Heap → List Loc → Prop} {rm : Room} (hlk : meth.locks = false) {z : Int64} (hrt : meth.sig.returnType = some .long) (hd : decode c.code pc = .ok (.lreturn, 1)) (hc : cells ≤ rm.cells) (hs : slots ≤ rm.slots) (hQ : Q (some (.long z)) T.heap locs) : Go p e below (Fin0 s rm Q) (T.setTop (mkF m pc L (.long z :: S))) := by
  obtain ⟨fs, hr, hrun, hended, hW, hsame⟩ := X.leave (v := (some (.long z))) (fun h => by rw [hrt] at h; cases h) hlk
  exact ⟨_, _, retOut X hx hrt rfl (Or.inr (Or.inl ⟨rfl, rfl, z, rfl⟩)) hd hr, hrun, hended, _, _, rfl, hQ, ⟨_, rfl⟩, hW, hsame.mono hc hs⟩
theorem g_areturn (X : Stand p l e R s m args below meth c T locs cells slots) (hx : p.tables.exec = Jvm.exec) {Q : Option Value → Heap → List Loc → Prop} {rm : Room} (hlk : meth.locks = false) {w : Value} {t : FieldType} (hw : w.isRef = true) (hrt : meth.sig.returnType = some t) (ht : t.isReference = true) (hd : decode c.code pc = .ok (.areturn, 1)) (hc : cells ≤ rm.cells) (hs : slots ≤ rm.slots) (hQ : Q (some w) T.heap locs) : Go p e below (Fin0 s rm Q) (T.setTop (mkF m pc L (w :: S))) := by
  obtain ⟨fs, hr, hrun, hended, hW, hsame⟩ := X.leave (v := (some w)) (fun h => by rw [hrt] at h; cases h) hlk
  exact ⟨_, _, retOut X hx hrt (by cases t <;> first | rfl | cases ht) (Or.inr (Or.inr (Or.inr (Or.inr ⟨rfl, ht, hw⟩)))) hd hr, hrun, hended, _, _, rfl, hQ, ⟨_, rfl⟩, hW, hsame.mono hc hs⟩
theorem g_zreturn (X : Stand p l e R s m args below meth c T locs cells slots) (hx : p.tables.exec = Jvm.exec) {Q : Option Value → Heap → List Loc → Prop} {rm : Room} (hlk : meth.locks = false) {b : Bool} (hrt : meth.sig.returnType = some .boolean) (hd : decode c.code pc = .ok (.ireturn, 1)) (hc : cells ≤ rm.cells) (hs : slots ≤ rm.slots) (hQ : Q (some (.int (b2i b))) T.heap locs) : Go p e below (Fin0 s rm Q) (T.setTop (mkF m pc L (.int (b2i b) :: S))) := by
  obtain ⟨fs, hr, hrun, hended, hW, hsame⟩ := X.leave (v := (some (.int (b2i b)))) (fun h => by rw [hrt] at h; cases h) hlk
  exact ⟨_, _, retOut X hx hrt (by cases b <;> rfl) (Or.inl ⟨rfl, Or.inr (Or.inl rfl), _, rfl⟩) hd hr, hrun, hended, _, _, rfl, hQ, ⟨_, rfl⟩, hW, hsame.mono hc hs⟩
theorem g_nreturn (X : Stand p l e R s m args below meth c T locs cells slots) (hx : p.tables.exec = Jvm.exec) {Q : Option Value → Heap → List Loc → Prop} {rm : Room} (hlk : meth.locks = false) {z : Int32} {t : FieldType} (hn : narrow t (.int z) = .int z) (ht : t = .int ∨ t = .boolean ∨ t = .byte ∨ t = .char ∨ t = .short) (hrt : meth.sig.returnType = some t) (hd : decode c.code pc = .ok (.ireturn, 1)) (hc : cells ≤ rm.cells) (hs : slots ≤ rm.slots) (hQ : Q (some (.int z)) T.heap locs) : Go p e below (Fin0 s rm Q) (T.setTop (mkF m pc L (.int z :: S))) := by
  obtain ⟨fs, hr, hrun, hended, hW, hsame⟩ := X.leave (v := (some (.int z))) (fun h => by rw [hrt] at h; cases h) hlk
  exact ⟨_, _, retOut X hx hrt hn (Or.inl ⟨rfl, ht, z, rfl⟩) hd hr, hrun, hended, _, _, rfl, hQ, ⟨_, rfl⟩, hW, hsame.mono hc hs⟩
theorem g_ret (X : Stand p l e R s m args below meth c T locs cells slots) (hx : p.tables.exec = Jvm.exec) {Q : Option Value → Heap → List Loc → Prop} {rm : Room} (hlk : meth.locks = false) (hrt : meth.sig.returnType = none) (hd : decode c.code pc = .ok (.return_, 1)) (hc : cells ≤ rm.cells) (hs : slots ≤ rm.slots) (hQ : Q none T.heap locs) : Go p e below (Fin0 s rm Q) (T.setTop (mkF m pc L [])) := by
  obtain ⟨fs, hr, hrun, hended, hW, hsame⟩ := X.leave (v := none) (fun _ => rfl) hlk
  exact ⟨_, _, X.returnOut hx hrt hd hr, hrun, hended, _, _, rfl, hQ, ⟨_, rfl⟩, hW, hsame.mono hc hs⟩
theorem g_callS (X : Stand p l e R s m args below meth c T locs cells slots) (hx : p.tables.exec = Jvm.exec) (hZ : Z.Warmed39 s.vm) {own : String} {index : Nat} {y : MethodName} {bytes : ByteArray} {maxL : Nat} {ret : Option FieldType} (hown : s.vm.findClass own = some m.cls) (w1 : (Jvm.Cond.methodLink own index y).before a0 Z = true) (w2 : (Jvm.Cond.static y).before a0 Z = true) (w3 : (Jvm.Cond.initialized y.cls).before a0 Z = true) (w4 : (Jvm.Cond.code y bytes maxL ret).before a0 Z = true) (hy : y.cls ≠ "java/lang/invoke/MethodHandle" ∧ y.cls ≠ "java/lang/invoke/VarHandle")
    {rm : Room} {as' : Array Value} {Q : Option Value → Heap → List Loc → Prop} (C : Ctr l Z y bytes maxL ret rm [] as' h Q) {argsL rest : List Value} {ps : List FieldType} {rt : Option FieldType} (hpd : parseMethodDescriptor y.desc = some ⟨ps, rt⟩) (hlen : argsL.length = ps.length) (hst : S = argsL.reverse ++ rest) (has : argsL.toArray = as') (hd : decode c.code pc = .ok (.invokestatic index, 3)) (hq : pc + 3 = q) (hsz : L.size = c.maxLocals) (eT : T.heap = h)
    (hf : rm.frames + 1 ≤ R.frames) {W : Nat} (hW : (rest.map fun v => v.category).sum = W) (hl : W + (maxL + 11) + rm.locals ≤ R.locals) (hc : cells + rm.cells ≤ R.cells) (hs : slots + rm.slots ≤ R.slots)
    (k : ∀ v T' Lc, Stand p l e R s m args below meth c T' (locs ++ Lc) (cells + rm.cells) (slots + rm.slots) → Q v T'.heap Lc → Go p e below Φ (T'.setTop (mkF m q L (v.toList ++ rest)))) : Go p e below Φ (T.setTop (mkF m pc L S)) := by
  subst hq has
  obtain ⟨v, _, ⟨T', L', k', n'⟩, -, X', ⟨Lc, hQ, l1, y1, z1⟩, st⟩ := Jvm.LawKit.callS X hx (y := y) hown (mvT hZ w1) (mvT hZ w2) (mvT hZ w3) (mvT hZ w4) hy (backOf (W := W) C hZ w4 w3 hf hl) (g := mkF m pc L S) rfl hsz (argsL := argsL) (rest := rest) (lenOf hpd hlen) hst (by show 2 * 0 + _ ≤ _; omega) hd (fun _ _ => ⟨rfl, eT, hc, hs⟩)
  dsimp only [Pt.U, Pt.locs, Pt.cells, Pt.slots] at X' l1 y1 z1 st hQ
  subst l1 y1 z1
  exact Go.by st (k v T' Lc X' hQ)
theorem g_callSP (X : Stand p l e R s m args below meth c T locs cells slots) (hx : p.tables.exec = Jvm.exec) (hZ : Z.Warmed39 s.vm) {own : String} {index : Nat} {y : MethodName} {bytes : ByteArray} {maxL : Nat} {ret : Option FieldType} (hown : s.vm.findClass own = some m.cls) (w1 : (Jvm.Cond.methodLink own index y).before a0 Z = true) (w2 : (Jvm.Cond.static y).before a0 Z = true) (w3 : (Jvm.Cond.initialized y.cls).before a0 Z = true) (w4 : (Jvm.Cond.code y bytes maxL ret).before a0 Z = true) (hy : y.cls ≠ "java/lang/invoke/MethodHandle" ∧ y.cls ≠ "java/lang/invoke/VarHandle")
    {rm : Room} {as' : Array Value} {r : Value} (C : Ctr l Z y bytes maxL ret rm [] as' h (PQ r h)) {argsL rest : List Value} {ps : List FieldType} {rt : Option FieldType} (hpd : parseMethodDescriptor y.desc = some ⟨ps, rt⟩) (hlen : argsL.length = ps.length) (hst : S = argsL.reverse ++ rest) (has : argsL.toArray = as') (hd : decode c.code pc = .ok (.invokestatic index, 3)) (hq : pc + 3 = q) (hsz : L.size = c.maxLocals) (eT : T.heap = h)
    (hf : rm.frames + 1 ≤ R.frames) {W : Nat} (hW : (rest.map fun v => v.category).sum = W) (hl : W + (maxL + 11) + rm.locals ≤ R.locals) (hc : rm.cells = 0) (hs : rm.slots = 0) (hc' : cells ≤ R.cells) (hs' : slots ≤ R.slots)
    (k : ∀ T', Stand p l e R s m args below meth c T' locs cells slots → T'.heap = h → Go p e below Φ (T'.setTop (mkF m q L (r :: rest)))) : Go p e below Φ (T.setTop (mkF m pc L S)) := by
  refine g_callS X hx hZ hown w1 w2 w3 w4 hy C hpd hlen hst has hd hq hsz eT hf hW hl (by omega) (by omega) ?_
  intro v T' Lc X' hQ
  obtain ⟨rfl, e1, rfl⟩ := hQ
  rw [hc, hs, List.append_nil] at X'
  exact k T' X' e1
theorem g_callSI (X : Stand p l e R s m args below meth c T locs cells slots) (hx : p.tables.exec = Jvm.exec) (hZ : Z.Warmed39 s.vm) {own : String} {index : Nat} {y : MethodName} {bytes : ByteArray} {maxL : Nat} {ret : Option FieldType} (hown : s.vm.findClass own = some m.cls) (w1 : (Jvm.Cond.methodLink own index y).before a0 Z = true) (w2 : (Jvm.Cond.static y).before a0 Z = true) (w3 : (Jvm.Cond.initialized y.cls).before a0 Z = true) (w4 : (Jvm.Cond.code y bytes maxL ret).before a0 Z = true) (hy : y.cls ≠ "java/lang/invoke/MethodHandle" ∧ y.cls ≠ "java/lang/invoke/VarHandle")
    {rm : Room} {as' : Array Value} {P : Int32 → Prop} (C : Ctr l Z y bytes maxL ret rm [] as' h (IQ P h)) {argsL rest : List Value} {ps : List FieldType} {rt : Option FieldType} (hpd : parseMethodDescriptor y.desc = some ⟨ps, rt⟩) (hlen : argsL.length = ps.length) (hst : S = argsL.reverse ++ rest) (has : argsL.toArray = as') (hd : decode c.code pc = .ok (.invokestatic index, 3)) (hq : pc + 3 = q) (hsz : L.size = c.maxLocals) (eT : T.heap = h)
    (hf : rm.frames + 1 ≤ R.frames) {W : Nat} (hW : (rest.map fun v => v.category).sum = W) (hl : W + (maxL + 11) + rm.locals ≤ R.locals) (hc : rm.cells = 0) (hs : rm.slots = 0) (hc' : cells ≤ R.cells) (hs' : slots ≤ R.slots)
    (k : ∀ T' r, Stand p l e R s m args below meth c T' locs cells slots → T'.heap = h → P r → Go p e below Φ (T'.setTop (mkF m q L (.int r :: rest)))) : Go p e below Φ (T.setTop (mkF m pc L S)) := by
  refine g_callS X hx hZ hown w1 w2 w3 w4 hy C hpd hlen hst has hd hq hsz eT hf hW hl (by omega) (by omega) ?_
  intro v T' Lc X' hQ
  obtain ⟨r, rfl, hP, e1, rfl⟩ := hQ
  rw [hc, hs, List.append_nil] at X'
  exact k T' r X' e1 hP
theorem g_callSJ (X : Stand p l e R s m args below meth c T locs cells slots) (hx : p.tables.exec = Jvm.exec) (hZ : Z.Warmed39 s.vm) {own : String} {index : Nat} {y : MethodName} {bytes : ByteArray} {maxL : Nat} {ret : Option FieldType} (hown : s.vm.findClass own = some m.cls) (w1 : (Jvm.Cond.methodLink own index y).before a0 Z = true) (w2 : (Jvm.Cond.static y).before a0 Z = true) (w3 : (Jvm.Cond.initialized y.cls).before a0 Z = true) (w4 : (Jvm.Cond.code y bytes maxL ret).before a0 Z = true) (hy : y.cls ≠ "java/lang/invoke/MethodHandle" ∧ y.cls ≠ "java/lang/invoke/VarHandle")
    {rm : Room} {as' : Array Value} {P : Int64 → Prop} (C : Ctr l Z y bytes maxL ret rm [] as' h (JQ P h)) {argsL rest : List Value} {ps : List FieldType} {rt : Option FieldType} (hpd : parseMethodDescriptor y.desc = some ⟨ps, rt⟩) (hlen : argsL.length = ps.length) (hst : S = argsL.reverse ++ rest) (has : argsL.toArray = as') (hd : decode c.code pc = .ok (.invokestatic index, 3)) (hq : pc + 3 = q) (hsz : L.size = c.maxLocals) (eT : T.heap = h)
    (hf : rm.frames + 1 ≤ R.frames) {W : Nat} (hW : (rest.map fun v => v.category).sum = W) (hl : W + (maxL + 11) + rm.locals ≤ R.locals) (hc : rm.cells = 0) (hs : rm.slots = 0) (hc' : cells ≤ R.cells) (hs' : slots ≤ R.slots)
    (k : ∀ T' r, Stand p l e R s m args below meth c T' locs cells slots → T'.heap = h → P r → Go p e below Φ (T'.setTop (mkF m q L (.long r :: rest)))) : Go p e below Φ (T.setTop (mkF m pc L S)) := by
  refine g_callS X hx hZ hown w1 w2 w3 w4 hy C hpd hlen hst has hd hq hsz eT hf hW hl (by omega) (by omega) ?_
  intro v T' Lc X' hQ
  obtain ⟨r, rfl, hP, e1, rfl⟩ := hQ
  rw [hc, hs, List.append_nil] at X'
  exact k T' r X' e1 hP
end OwnKit

/-! ### the own kit, heap part -/
def ArrL (Z : State) (h : Heap) (a : Addr) (ty : FieldType) (vals : List Value) : Prop := ∃ c : Cell, Arr Z h a c ty ∧ c.slots = vals.toArray ∧ vals.length < 2 ^ 31
abbrev IA (Z : State) (h : Heap) (a : Addr) (vs : List Int32) : Prop := ArrL Z h a .int (vs.map Value.int)
abbrev LA (Z : State) (h : Heap) (a : Addr) (vs : List Int64) : Prop := ArrL Z h a .long (vs.map Value.long)
abbrev ZA (Z : State) (h : Heap) (a : Addr) (vs : List Bool) : Prop := ArrL Z h a .boolean (vs.map fun b => Value.int (b2i b))
theorem own_clamp (j : Int32) : j.toNatClampNeg = j.toInt.toNat := rfl
theorem idxN {j : Int32} {i : Nat} (hj : j.toInt = (i : Int)) : ¬ j < 0 ∧ j.toNatClampNeg = i := by
  rw [own_clamp, Int32.lt_iff_toInt_lt, show (0 : Int32).toInt = 0 from rfl, hj]; omega
theorem idxIn {j : Int32} {i n : Nat} (hj : j.toInt = (i : Int)) (hi : i < n) : ¬ (j < 0 ∨ n ≤ j.toNatClampNeg) := by
  obtain ⟨h1, h2⟩ := idxN hj; exact fun h => h.elim h1 fun h => by rw [h2] at h; omega
section OwnHeap
variable {p : Program} {l : Launch} {e : Env} {R : Room} {s : State} {m : MethodId} {args : Array Value} {below : List Frame} {meth : Method} {c : Code} {T : State} {locs : List Loc} {cells slots : Nat} {Z : State} {a0 : Array Value} {h : Heap} {Φ : Outcome → State → Prop} {pc q : Nat} {L : Array Slot} {S : List Value}
variable {h' : Heap} {a b o : Addr} {ty : FieldType} {vals : List Value} {sl : Nat} {v w : Value} {ws : List Addr}
theorem ArrL.lt (F : ArrL Z h a ty vals) : a < h.size := by obtain ⟨c, A, -⟩ := F; exact A.lt
theorem ArrL.ext (F : ArrL Z h a ty vals) (E : Ext h h') : ArrL Z h' a ty vals := by obtain ⟨c, A, r⟩ := F; exact ⟨c, A.ext E, r⟩
theorem ArrL.other (F : ArrL Z h a ty vals) (W : Wr h h' b sl v) (q : a ≠ b) : ArrL Z h' a ty vals := by obtain ⟨c, A, r⟩ := F; exact ⟨c, A.other W q, r⟩
theorem ArrL.keep (F : ArrL Z h a ty vals) (K : Keep h h' ws) (q : a ∉ ws) : ArrL Z h' a ty vals := by obtain ⟨c, A, r⟩ := F; exact ⟨c, ⟨K.2.1 a c A.1 q, A.2⟩, r⟩
theorem ArrL.len (F : ArrL Z h a ty vals) : vals.length < 2 ^ 31 := by obtain ⟨c, A, -, r⟩ := F; exact r
theorem ArrL.set (F : ArrL Z h a ty vals) {i : Nat} (W : Wr h h' a i v) : ArrL Z h' a ty (vals.set i v) := by
  obtain ⟨c, A, e1, r⟩ := F
  refine ⟨_, A.same W, ?_, by rw [List.length_set]; exact r⟩
  show c.slots.setIfInBounds i v = _
  rw [e1]; simp
theorem ArrL.new {k : ClassId} {z : Int32} {n : Nat} (A : Arr Z h a (newA k ty z) ty) (hz : z.toInt = (n : Int)) : ArrL Z h a ty (List.replicate n (defaultValue ty)) := by
  refine ⟨_, A, ?_, ?_⟩
  · show Array.replicate z.toNatClampNeg (defaultValue ty) = _
    rw [(idxN hz).2]; simp
  · have := rng32 z; rw [List.length_replicate]; omega
theorem IA.eq {us vs : List Int32} (F : IA Z h a us) (q : us = vs) : IA Z h a vs := q ▸ F
theorem LA.eq {us vs : List Int64} (F : LA Z h a us) (q : us = vs) : LA Z h a vs := q ▸ F
theorem ZA.eq {us vs : List Bool} (F : ZA Z h a us) (q : us = vs) : ZA Z h a vs := q ▸ F
theorem ne_new (h1 : a < h.size) (q : o = h.size) : a ≠ o := by subst q; exact Nat.ne_of_lt h1
theorem ne_ge (h1 : a < h.size) (q : h.size ≤ o) : a ≠ o := Nat.ne_of_lt (Nat.lt_of_lt_of_le h1 q)
theorem ge_new {n0 : Nat} (h1 : n0 ≤ h.size) (q : o = h.size) : n0 ≤ o := by subst q; exact h1
theorem Fr.wr {n0 i : Nat} (N : Fr n0 locs) (q : n0 ≤ a) : Fr n0 (locs ++ [⟨a, i⟩]) := N.app fun y hy => by cases List.mem_singleton.mp hy; exact q
theorem g_iload_ (X : Stand p l e R s m args below meth c T locs cells slots) (hx : p.tables.exec = Jvm.exec) (hZ : Z.Warmed39 s.vm) (eT : T.heap = h) {vs : List Int32} (F : IA Z h a vs) {j : Int32} {i : Nat} {v : Int32} (hj : j.toInt = (i : Int)) (hv : vs[i]? = some v) (hd : decode c.code pc = .ok (.iaload, 1)) (hq : pc + 1 = q) (k : Go p e below Φ (T.setTop (mkF m q L (.int v :: S)))) : Go p e below Φ (T.setTop (mkF m pc L (.int j :: .ref a :: S))) := by
  subst hq
  obtain ⟨cl, A, e1, r⟩ := F
  have hi : i < vs.length := (List.getElem?_eq_some_iff.mp hv).1
  have hs : cl.slots.size = vs.length := by rw [e1]; simp
  refine Go.by (X.iaload hx (cell := cl) (j := j) (v := (.int v)) (by rw [eT]; exact A.1) (State.isArrayOf_alike hZ.alike A.2.1) A.2.2 (idxIn hj (by rw [hs]; exact hi)) (by rw [(idxN hj).2, e1]; simp [hv]) rfl rfl hd) k
theorem g_istore_ (X : Stand p l e R s m args below meth c T locs cells slots) (hx : p.tables.exec = Jvm.exec) (hZ : Z.Warmed39 s.vm) (eT : T.heap = h) {vs : List Int32} (F : IA Z h a vs) {j : Int32} {i : Nat} {v : Int32} (hj : j.toInt = (i : Int)) (hi : i < vs.length) (hd : decode c.code pc = .ok (.iastore, 1)) (hq : pc + 1 = q) (k : ∀ T' h', Stand p l e R s m args below meth c T' (locs ++ [⟨a, i⟩]) cells slots → T'.heap = h' → Wr h h' a i (.int v) → IA Z h' a (vs.set i v) → Go p e below Φ (T'.setTop (mkF m q L S))) : Go p e below Φ (T.setTop (mkF m pc L (.int v :: .int j :: .ref a :: S))) := by
  subst hq
  have F0 := F
  obtain ⟨cl, A, e1, r⟩ := F
  have hs : cl.slots.size = vs.length := by rw [e1]; simp
  obtain ⟨T', h', X', e', W, st⟩ := stI X hx hZ eT A (j := j) (x := v) (idxIn hj (by rw [hs]; exact hi)) (g := mkF m pc L ((.int v) :: .int j :: .ref a :: S)) rfl rfl hd
  rw [(idxN hj).2] at X' W
  refine Go.by st (k T' h' X' e' W ?_)
  have := F0.set W
  show ArrL Z h' a .int ((vs.set i v).map Value.int)
  rw [List.map_set]; exact this
theorem g_inew_ (X : Stand p l e R s m args below meth c T locs cells slots) (hx : p.tables.exec = Jvm.exec) (hZ : Z.Warmed39 s.vm) (w : (Jvm.Cond.arrayClass .int).before a0 Z = true) (eT : T.heap = h) {z : Int32} {n cap : Nat} (hz : z.toInt = (n : Int)) (hn : n ≤ cap) (hb : cap * 8 ≤ 536870912) (hd : decode c.code pc = .ok (.newarray .int, 2)) (hq : pc + 2 = q) (hc : cells + 1 ≤ R.cells) (hl : slots + cap ≤ R.slots) (k : ∀ T' h' o, Stand p l e R s m args below meth c T' locs (cells + 1) (slots + cap) → T'.heap = h' → Ext h h' → o = h.size → IA Z h' o (List.replicate n 0) → Go p e below Φ (T'.setTop (mkF m q L (.ref o :: S)))) : Go p e below Φ (T.setTop (mkF m pc L (.int z :: S))) := by
  subst hq
  obtain ⟨T', h', cA, X', e', E, A, st⟩ := newP X hx hZ (aty := .int) w eT (g := mkF m pc L (.int z :: S)) rfl hd rfl (idxN hz).1 (cap := cap) (by rw [(idxN hz).2]; exact hn) hb hc hl
  refine Go.by st (k T' h' h.size X' e' E rfl ?_)
  have := ArrL.new A hz
  show ArrL Z h' h.size .int _
  rw [List.map_replicate]; exact this
theorem g_lload_ (X : Stand p l e R s m args below meth c T locs cells slots) (hx : p.tables.exec = Jvm.exec) (hZ : Z.Warmed39 s.vm) (eT : T.heap = h) {vs : List Int64} (F : LA Z h a vs) {j : Int32} {i : Nat} {v : Int64} (hj : j.toInt = (i : Int)) (hv : vs[i]? = some v) (hd : decode c.code pc = .ok (.laload, 1)) (hq : pc + 1 = q) (k : Go p e below Φ (T.setTop (mkF m q L (.long v :: S)))) : Go p e below Φ (T.setTop (mkF m pc L (.int j :: .ref a :: S))) := by
  subst hq
  obtain ⟨cl, A, e1, r⟩ := F
  have hi : i < vs.length := (List.getElem?_eq_some_iff.mp hv).1
  have hs : cl.slots.size = vs.length := by rw [e1]; simp
  refine Go.by (X.laload hx (cell := cl) (j := j) (v := (.long v)) (by rw [eT]; exact A.1) (State.isArrayOf_alike hZ.alike A.2.1) A.2.2 (idxIn hj (by rw [hs]; exact hi)) (by rw [(idxN hj).2, e1]; simp [hv]) rfl rfl hd) k
theorem g_lstore_ (X : Stand p l e R s m args below meth c T locs cells slots) (hx : p.tables.exec = Jvm.exec) (hZ : Z.Warmed39 s.vm) (eT : T.heap = h) {vs : List Int64} (F : LA Z h a vs) {j : Int32} {i : Nat} {v : Int64} (hj : j.toInt = (i : Int)) (hi : i < vs.length) (hd : decode c.code pc = .ok (.lastore, 1)) (hq : pc + 1 = q) (k : ∀ T' h', Stand p l e R s m args below meth c T' (locs ++ [⟨a, i⟩]) cells slots → T'.heap = h' → Wr h h' a i (.long v) → LA Z h' a (vs.set i v) → Go p e below Φ (T'.setTop (mkF m q L S))) : Go p e below Φ (T.setTop (mkF m pc L (.long v :: .int j :: .ref a :: S))) := by
  subst hq
  have F0 := F
  obtain ⟨cl, A, e1, r⟩ := F
  have hs : cl.slots.size = vs.length := by rw [e1]; simp
  obtain ⟨T', h', X', e', W, st⟩ := stJ X hx hZ eT A (j := j) (x := v) (idxIn hj (by rw [hs]; exact hi)) (g := mkF m pc L ((.long v) :: .int j :: .ref a :: S)) rfl rfl hd
  rw [(idxN hj).2] at X' W
  refine Go.by st (k T' h' X' e' W ?_)
  have := F0.set W
  show ArrL Z h' a .long ((vs.set i v).map Value.long)
  rw [List.map_set]; exact this
theorem g_lnew_ (X : Stand p l e R s m args below meth c T locs cells slots) (hx : p.tables.exec = Jvm.exec) (hZ : Z.Warmed39 s.vm) (w : (Jvm.Cond.arrayClass .long).before a0 Z = true) (eT : T.heap = h) {z : Int32} {n cap : Nat} (hz : z.toInt = (n : Int)) (hn : n ≤ cap) (hb : cap * 8 ≤ 536870912) (hd : decode c.code pc = .ok (.newarray .long, 2)) (hq : pc + 2 = q) (hc : cells + 1 ≤ R.cells) (hl : slots + cap ≤ R.slots) (k : ∀ T' h' o, Stand p l e R s m args below meth c T' locs (cells + 1) (slots + cap) → T'.heap = h' → Ext h h' → o = h.size → LA Z h' o (List.replicate n 0) → Go p e below Φ (T'.setTop (mkF m q L (.ref o :: S)))) : Go p e below Φ (T.setTop (mkF m pc L (.int z :: S))) := by
  subst hq
  obtain ⟨T', h', cA, X', e', E, A, st⟩ := newP X hx hZ (aty := .long) w eT (g := mkF m pc L (.int z :: S)) rfl hd rfl (idxN hz).1 (cap := cap) (by rw [(idxN hz).2]; exact hn) hb hc hl
  refine Go.by st (k T' h' h.size X' e' E rfl ?_)
  have := ArrL.new A hz
  show ArrL Z h' h.size .long _
  rw [List.map_replicate]; exact this
theorem g_zload_ (X : Stand p l e R s m args below meth c T locs cells slots) (hx : p.tables.exec = Jvm.exec) (hZ : Z.Warmed39 s.vm) (eT : T.heap = h) {vs : List Bool} (F : ZA Z h a vs) {j : Int32} {i : Nat} {v : Bool} (hj : j.toInt = (i : Int)) (hv : vs[i]? = some v) (hd : decode c.code pc = .ok (.baload, 1)) (hq : pc + 1 = q) (k : Go p e below Φ (T.setTop (mkF m q L (.int (b2i v) :: S)))) : Go p e below Φ (T.setTop (mkF m pc L (.int j :: .ref a :: S))) := by
  subst hq
  obtain ⟨cl, A, e1, r⟩ := F
  have hi : i < vs.length := (List.getElem?_eq_some_iff.mp hv).1
  have hs : cl.slots.size = vs.length := by rw [e1]; simp
  refine Go.by (X.baloadBooleans hx (cell := cl) (j := j) (v := (.int (b2i v))) (by rw [eT]; exact A.1) (State.isArrayOf_alike hZ.alike A.2.1) A.2.2 (idxIn hj (by rw [hs]; exact hi)) (by rw [(idxN hj).2, e1]; simp [hv]) rfl rfl hd) k
theorem g_zstore_ (X : Stand p l e R s m args below meth c T locs cells slots) (hx : p.tables.exec = Jvm.exec) (hZ : Z.Warmed39 s.vm) (eT : T.heap = h) {vs : List Bool} (F : ZA Z h a vs) {j : Int32} {i : Nat} {v : Bool} (hj : j.toInt = (i : Int)) (hi : i < vs.length) (hd : decode c.code pc = .ok (.bastore, 1)) (hq : pc + 1 = q) (k : ∀ T' h', Stand p l e R s m args below meth c T' (locs ++ [⟨a, i⟩]) cells slots → T'.heap = h' → Wr h h' a i (.int (b2i v)) → ZA Z h' a (vs.set i v) → Go p e below Φ (T'.setTop (mkF m q L S))) : Go p e below Φ (T.setTop (mkF m pc L (.int (b2i v) :: .int j :: .ref a :: S))) := by
  subst hq
  have F0 := F
  obtain ⟨cl, A, e1, r⟩ := F
  have hs : cl.slots.size = vs.length := by rw [e1]; simp
  obtain ⟨T', h', X', e', W, st⟩ := stZ X hx hZ eT A (j := j) (x := b2i v) (idxIn hj (by rw [hs]; exact hi)) (g := mkF m pc L ((.int (b2i v)) :: .int j :: .ref a :: S)) rfl rfl hd
  have W : Wr h h' a j.toNatClampNeg (.int (b2i v)) := by have W' := W; rw [b2i_nar] at W'; exact W'
  rw [(idxN hj).2] at X' W
  refine Go.by st (k T' h' X' e' W ?_)
  have := F0.set W
  show ArrL Z h' a .boolean ((vs.set i v).map (fun b => Value.int (b2i b)))
  rw [List.map_set]; exact this
theorem g_znew_ (X : Stand p l e R s m args below meth c T locs cells slots) (hx : p.tables.exec = Jvm.exec) (hZ : Z.Warmed39 s.vm) (w : (Jvm.Cond.arrayClass .boolean).before a0 Z = true) (eT : T.heap = h) {z : Int32} {n cap : Nat} (hz : z.toInt = (n : Int)) (hn : n ≤ cap) (hb : cap * 8 ≤ 536870912) (hd : decode c.code pc = .ok (.newarray .boolean, 2)) (hq : pc + 2 = q) (hc : cells + 1 ≤ R.cells) (hl : slots + cap ≤ R.slots) (k : ∀ T' h' o, Stand p l e R s m args below meth c T' locs (cells + 1) (slots + cap) → T'.heap = h' → Ext h h' → o = h.size → ZA Z h' o (List.replicate n false) → Go p e below Φ (T'.setTop (mkF m q L (.ref o :: S)))) : Go p e below Φ (T.setTop (mkF m pc L (.int z :: S))) := by
  subst hq
  obtain ⟨T', h', cA, X', e', E, A, st⟩ := newP X hx hZ (aty := .boolean) w eT (g := mkF m pc L (.int z :: S)) rfl hd rfl (idxN hz).1 (cap := cap) (by rw [(idxN hz).2]; exact hn) hb hc hl
  refine Go.by st (k T' h' h.size X' e' E rfl ?_)
  have := ArrL.new A hz
  show ArrL Z h' h.size .boolean _
  rw [List.map_replicate]; exact this
theorem g_bnew_ (X : Stand p l e R s m args below meth c T locs cells slots) (hx : p.tables.exec = Jvm.exec) (hZ : Z.Warmed39 s.vm) (w : (Jvm.Cond.arrayClass .byte).before a0 Z = true) (eT : T.heap = h) {z : Int32} {n cap : Nat} (hz : z.toInt = (n : Int)) (hn : n ≤ cap) (hb : cap * 8 ≤ 536870912) (hd : decode c.code pc = .ok (.newarray .byte, 2)) (hq : pc + 2 = q) (hc : cells + 1 ≤ R.cells) (hl : slots + cap ≤ R.slots) (k : ∀ T' h' o, Stand p l e R s m args below meth c T' locs (cells + 1) (slots + cap) → T'.heap = h' → Ext h h' → o = h.size → ArrL Z h' o .byte (List.replicate n (.int 0)) → Go p e below Φ (T'.setTop (mkF m q L (.ref o :: S)))) : Go p e below Φ (T.setTop (mkF m pc L (.int z :: S))) := by
  subst hq
  obtain ⟨T', h', cA, X', e', E, A, st⟩ := newP X hx hZ (aty := .byte) w eT (g := mkF m pc L (.int z :: S)) rfl hd rfl (idxN hz).1 (cap := cap) (by rw [(idxN hz).2]; exact hn) hb hc hl
  exact Go.by st (k T' h' h.size X' e' E rfl (ArrL.new A hz))
theorem g_bload_ (X : Stand p l e R s m args below meth c T locs cells slots) (hx : p.tables.exec = Jvm.exec) (hZ : Z.Warmed39 s.vm) (eT : T.heap = h) (F : ArrL Z h a .byte vals) {j : Int32} {i : Nat} {v : Int32} (hj : j.toInt = (i : Int)) (hv : vals[i]? = some (.int v)) (hd : decode c.code pc = .ok (.baload, 1)) (hq : pc + 1 = q) (k : Go p e below Φ (T.setTop (mkF m q L (.int v :: S)))) : Go p e below Φ (T.setTop (mkF m pc L (.int j :: .ref a :: S))) := by
  subst hq
  obtain ⟨cl, A, e1, r⟩ := F
  have hi : i < vals.length := (List.getElem?_eq_some_iff.mp hv).1
  have hs : cl.slots.size = vals.length := by rw [e1]; simp
  refine Go.by (X.baloadBytes hx (cell := cl) (j := j) (v := .int v) (by rw [eT]; exact A.1) (State.isArrayOf_alike hZ.alike A.2.1) A.2.2 (idxIn hj (by rw [hs]; exact hi)) (by rw [(idxN hj).2, e1]; simp [hv]) rfl rfl hd) k
theorem g_getS (X : Stand p l e R s m args below meth c T locs cells slots) (hx : p.tables.exec = Jvm.exec) (hZ : Z.Warmed39 s.vm) {own R0 n d : String} {index : Nat} (hown : s.vm.findClass own = some m.cls) (w : (Jvm.Cond.fieldLink own index R0 n d).before a0 Z = true) (eT : T.heap = h) (F : Sta Z h R0 n d v) (hd : decode c.code pc = .ok (.getstatic index, 3)) (hq : pc + 3 = q) (k : ∀ T', Stand p l e R s m args below meth c T' locs cells slots → T'.heap = h → Go p e below Φ (T'.setTop (mkF m q L (v :: S)))) : Go p e below Φ (T.setTop (mkF m pc L S)) := by
  subst hq
  obtain ⟨T', X', e', st⟩ := getS (host := "") X hx hZ hown w Via.refl eT F (g := mkF m pc L S) rfl hd
  exact Go.by st (k T' X' e')
theorem g_alen (X : Stand p l e R s m args below meth c T locs cells slots) (hx : p.tables.exec = Jvm.exec) (hZ : Z.Warmed39 s.vm) (eT : T.heap = h) (F : ArrL Z h a ty vals) {v : Int32} (hv : v.toInt = (vals.length : Int)) (hd : decode c.code pc = .ok (.arraylength, 1)) (hq : pc + 1 = q) (k : Go p e below Φ (T.setTop (mkF m q L (.int v :: S)))) : Go p e below Φ (T.setTop (mkF m pc L (.ref a :: S))) := by
  subst hq
  obtain ⟨cl, A, e1, r⟩ := F
  have hs : cl.slots.size = vals.length := by rw [e1]; simp
  have hz : cl.slots.size.toInt32 = v := Int32.toInt_inj.mp (by rw [hs, len_toInt r]; exact hv.symm)
  refine Go.by (X.arraylength hx (cell := cl) (by rw [eT]; exact A.1) (State.isArrayOf_alike hZ.alike A.2.1) rfl rfl hd) ?_
  rw [hz]; exact k
theorem g_getF (X : Stand p l e R s m args below meth c T locs cells slots) (hx : p.tables.exec = Jvm.exec) (hZ : Z.Warmed39 s.vm) {own R0 n d : String} {index : Nat} (hown : s.vm.findClass own = some m.cls) (w : (Jvm.Cond.fieldLink own index R0 n d).before a0 Z = true) (eT : T.heap = h) (F : Fld Z h a R0 n d v) (hd : decode c.code pc = .ok (.getfield index, 3)) (hq : pc + 3 = q) (k : ∀ T', Stand p l e R s m args below meth c T' locs cells slots → T'.heap = h → Go p e below Φ (T'.setTop (mkF m q L (v :: S)))) : Go p e below Φ (T.setTop (mkF m pc L (.ref a :: S))) := by
  subst hq
  obtain ⟨T', X', e', st⟩ := getF X hx hZ hown (host := "") (Or.inl w) Via.refl eT F (g := mkF m pc L (.ref a :: S)) rfl rfl hd
  exact Go.by st (k T' X' e')
theorem g_putF (X : Stand p l e R s m args below meth c T locs cells slots) (hx : p.tables.exec = Jvm.exec) (hZ : Z.Warmed39 s.vm) {own R0 n d C : String} {index kk : Nat} {ty : FieldType} (hown : s.vm.findClass own = some m.cls) (wl : (Jvm.Cond.fieldLink own index R0 n d).before a0 Z = true) (eT : T.heap = h) (F : Fld Z h a R0 n d w) (E : Exa Z h a C) (Ly : (Jvm.Cond.lays C R0 n d).before a0 Z = true ∨ ((Jvm.Cond.laysFinal C R0 n d).before a0 Z = true ∧ own = R0 ∧ meth.name = "<init>")) (wi : (Jvm.Cond.instantiable C kk).before a0 Z = true) (hty : parseFieldDescriptor d = some ty) (hn : narrow ty v = v) (hf : fits ty v = true) (hd : decode c.code pc = .ok (.putfield index, 3)) (hq : pc + 3 = q) (k : ∀ T' h', Stand p l e R s m args below meth c T' (locs ++ [⟨a, Jvm.RoadKit.slotOf Z R0 n d⟩]) cells slots → T'.heap = h' → Wr h h' a (Jvm.RoadKit.slotOf Z R0 n d) v → Fld Z h' a R0 n d v → Go p e below Φ (T'.setTop (mkF m q L S))) : Go p e below Φ (T.setTop (mkF m pc L (v :: .ref a :: S))) := by
  subst hq
  obtain ⟨T', h', X', e', W, st⟩ := putF X hx hZ hown (host := "") (Or.inl wl) Via.refl eT F E Ly wi hty hn hf (g := mkF m pc L (v :: .ref a :: S)) rfl rfl hd
  exact Go.by st (k T' h' X' e' W (F.same W))
theorem g_newO (X : Stand p l e R s m args below meth c T locs cells slots) (hx : p.tables.exec = Jvm.exec) (hZ : Z.Warmed39 s.vm) {own C : String} {index n : Nat} (hown : s.vm.findClass own = some m.cls) (w : (Jvm.Cond.classLink own index C).before a0 Z = true) (wi : (Jvm.Cond.instantiable C n).before a0 Z = true) (wz : (Jvm.Cond.initialized C).before a0 Z = true) (eT : T.heap = h) (hd : decode c.code pc = .ok (.new index, 3)) (hq : pc + 3 = q) (hc : cells + 1 ≤ R.cells) (hl : slots + n ≤ R.slots) (k : ∀ T' h' o, Stand p l e R s m args below meth c T' locs (cells + 1) (slots + n) → T'.heap = h' → Ext h h' → o = h.size → Exa Z h' o C → (∀ {O nm d : String} {ty : FieldType}, Laid Z a0 C O nm d → parseFieldDescriptor d = some ty → Fld Z h' o O nm d (defaultValue ty)) → Go p e below Φ (T'.setTop (mkF m q L (.ref o :: S)))) : Go p e below Φ (T.setTop (mkF m pc L S)) := by
  subst hq
  obtain ⟨T', h', X', e', E, A, D, -, st⟩ := newO X hx hZ hown w wi wz eT (g := mkF m pc L S) rfl hd hc hl
  exact Go.by st (k T' h' h.size X' e' E rfl A D)
theorem g_initO (X : Stand p l e R s m args below meth c T locs cells slots) (hx : p.tables.exec = Jvm.exec) (hZ : Z.Warmed39 s.vm) {own : String} {index : Nat} (hown : s.vm.findClass own = some m.cls) (w1 : (Jvm.Cond.methodLink own index Lib.objectInit).before a0 Z = true) (w2 : (Jvm.Cond.instanceMethod Lib.objectInit).before a0 Z = true) (w3 : (Jvm.Cond.code Lib.objectInit ⟨#[0xb1]⟩ 1 none).before a0 Z = true) (eT : T.heap = h) (hsz : L.size = c.maxLocals) (hd : decode c.code pc = .ok (.invokespecial index, 3)) (hq : pc + 3 = q) (hf : 1 ≤ R.frames) {W : Nat} (hW : (S.map fun v => v.category).sum = W) (hl : W + 12 ≤ R.locals) (k : ∀ T', Stand p l e R s m args below meth c T' locs cells slots → T'.heap = h → Go p e below Φ (T'.setTop (mkF m q L S))) : Go p e below Φ (T.setTop (mkF m pc L (.ref a :: S))) := by
  subst hq
  obtain ⟨T', X', e', st⟩ := initO X hx hZ hown w1 w2 w3 eT (g := mkF m pc L (.ref a :: S)) rfl hsz rfl hd hf (W := W) (by show 2 * 0 + _ ≤ _; omega) hl
  exact Go.by st (k T' X' e')
theorem g_special (X : Stand p l e R s m args below meth c T locs cells slots) (hx : p.tables.exec = Jvm.exec) (hZ : Z.Warmed39 s.vm) {own : String} {index : Nat} {y : MethodName} {bytes : ByteArray} {maxL : Nat} (hy1 : y.name = "<init>") (hown : s.vm.findClass own = some m.cls) (w1 : (Jvm.Cond.methodLink own index y).before a0 Z = true) (w2 : (Jvm.Cond.instanceMethod y).before a0 Z = true) (w3 : (Jvm.Cond.initialized y.cls).before a0 Z = true) (w4 : (Jvm.Cond.code y bytes maxL none).before a0 Z = true) (hy : y.cls ≠ "java/lang/invoke/MethodHandle" ∧ y.cls ≠ "java/lang/invoke/VarHandle")
    {rm : Room} {as' : Array Value} {Q : Option Value → Heap → List Loc → Prop} (C : Ctr l Z y bytes maxL none rm [] as' h Q) {argsL rest : List Value} {ps : List FieldType} {rt : Option FieldType} (hpd : parseMethodDescriptor y.desc = some ⟨ps, rt⟩) (hlen : argsL.length = ps.length) (hst : S = argsL.reverse ++ .ref a :: rest) (has : (.ref a :: argsL).toArray = as') (hd : decode c.code pc = .ok (.invokespecial index, 3)) (hq : pc + 3 = q) (hsz : L.size = c.maxLocals) (eT : T.heap = h)
    (hf : rm.frames + 1 ≤ R.frames) {W : Nat} (hW : (rest.map fun v => v.category).sum = W) (hl : W + (maxL + 11) + rm.locals ≤ R.locals) (hc : cells + rm.cells ≤ R.cells) (hs : slots + rm.slots ≤ R.slots)
    (k : ∀ v T' Lc, Stand p l e R s m args below meth c T' (locs ++ Lc) (cells + rm.cells) (slots + rm.slots) → Q v T'.heap Lc → Go p e below Φ (T'.setTop (mkF m q L (v.toList ++ rest)))) : Go p e below Φ (T.setTop (mkF m pc L S)) := by
  subst hq has
  obtain ⟨v, _, ⟨T', L', k', n'⟩, -, X', ⟨Lc, hQ, l1, y1, z1⟩, st⟩ := X.specialBack hx (y := y) hy1 hown (mvT hZ w1) (mvT hZ w2) (mvT hZ w4) hy (backOf (W := W) C hZ w4 w3 hf hl) (g := mkF m pc L S) rfl hsz (Steps.refl _) (a := a) (argsL := argsL) (rest := rest) (lenOf hpd hlen) hst (by show 2 * 0 + _ ≤ _; omega) hd (fun _ _ => ⟨rfl, eT, hc, hs⟩)
  dsimp only [Pt.U, Pt.locs, Pt.cells, Pt.slots] at X' l1 y1 z1 st hQ
  subst l1 y1 z1
  exact Go.by (fun _ r => st.trans r) (k v T' Lc X' hQ)
theorem g_virtual (X : Stand p l e R s m args below meth c T locs cells slots) (hx : p.tables.exec = Jvm.exec) (hZ : Z.Warmed39 s.vm) {own C0 : String} {index : Nat} {y : MethodName} {bytes : ByteArray} {maxL : Nat} {ret : Option FieldType} (hown : s.vm.findClass own = some m.cls) (w1 : (Jvm.Cond.methodLink own index y).before a0 Z = true) (w2 : (Jvm.Cond.declares y).before a0 Z = true) (w3 : (Jvm.Cond.selects C0 y y).before a0 Z = true) (w4 : (Jvm.Cond.instanceMethod y).before a0 Z = true) (w5 : (Jvm.Cond.initialized y.cls).before a0 Z = true) (w6 : (Jvm.Cond.code y bytes maxL ret).before a0 Z = true) (hy : y.cls ≠ "java/lang/invoke/MethodHandle" ∧ y.cls ≠ "java/lang/invoke/VarHandle")
    {rm : Room} {as' : Array Value} {Q : Option Value → Heap → List Loc → Prop} (C : Ctr l Z y bytes maxL ret rm [] as' h Q) (Ex : Exa Z h a C0) {argsL rest : List Value} {ps : List FieldType} {rt : Option FieldType} (hpd : parseMethodDescriptor y.desc = some ⟨ps, rt⟩) (hlen : argsL.length = ps.length) (hst : S = argsL.reverse ++ .ref a :: rest) (has : (.ref a :: argsL).toArray = as') (hd : decode c.code pc = .ok (.invokevirtual index, 3)) (hq : pc + 3 = q) (hsz : L.size = c.maxLocals) (eT : T.heap = h)
    (hf : rm.frames + 1 ≤ R.frames) {W : Nat} (hW : (rest.map fun v => v.category).sum = W) (hl : W + (maxL + 11) + rm.locals ≤ R.locals) (hc : cells + rm.cells ≤ R.cells) (hs : slots + rm.slots ≤ R.slots)
    (k : ∀ v T' Lc, Stand p l e R s m args below meth c T' (locs ++ Lc) (cells + rm.cells) (slots + rm.slots) → Q v T'.heap Lc → Go p e below Φ (T'.setTop (mkF m q L (v.toList ++ rest)))) : Go p e below Φ (T.setTop (mkF m pc L S)) := by
  subst hq has
  obtain ⟨cq, kq, qa, qb, qc⟩ := isOf hZ eT Ex
  obtain ⟨v, _, ⟨T', L', k', n'⟩, -, X', ⟨Lc, hQ, l1, y1, z1⟩, st⟩ := X.virtualBack hx (y := y) (z := y) hown (mvT hZ w1) (mvT hZ w2) (notFace_of_selects (args := #[]) (mvT hZ w3)) (mvT hZ w3) (mvT hZ w4) hy (backOf (W := W) C hZ w6 w5 hf hl) qa qc (g := mkF m pc L S) rfl hsz (Steps.refl _) (argsL := argsL) (rest := rest) (lenOf hpd hlen) hst (by show 2 * 0 + _ ≤ _; omega) hd (fun _ _ => ⟨rfl, eT, hc, hs⟩)
  dsimp only [Pt.U, Pt.locs, Pt.cells, Pt.slots] at X' l1 y1 z1 st hQ
  subst l1 y1 z1
  exact Go.by (fun _ r => st.trans r) (k v T' Lc X' hQ)
theorem g_private (X : Stand p l e R s m args below meth c T locs cells slots) (hx : p.tables.exec = Jvm.exec) (hZ : Z.Warmed39 s.vm) {own : String} {index kI : Nat} {y : MethodName} {bytes : ByteArray} {maxL : Nat} {ret : Option FieldType} (hown : s.vm.findClass own = some m.cls) (w1 : (Jvm.Cond.methodLink own index y).before a0 Z = true) (w2 : (Jvm.Cond.instanceMethod y).before a0 Z = true) (w3 : (Jvm.Cond.privateMethod y).before a0 Z = true) (w4 : (Jvm.Cond.instantiable y.cls kI).before a0 Z = true) (w5 : (Jvm.Cond.initialized y.cls).before a0 Z = true) (w6 : (Jvm.Cond.code y bytes maxL ret).before a0 Z = true) (hy : y.cls ≠ "java/lang/invoke/MethodHandle" ∧ y.cls ≠ "java/lang/invoke/VarHandle")
    {rm : Room} {as' : Array Value} {Q : Option Value → Heap → List Loc → Prop} (C : Ctr l Z y bytes maxL ret rm [] as' h Q) (Ex : Exa Z h a y.cls) {argsL rest : List Value} {ps : List FieldType} {rt : Option FieldType} (hpd : parseMethodDescriptor y.desc = some ⟨ps, rt⟩) (hlen : argsL.length = ps.length) (hst : S = argsL.reverse ++ .ref a :: rest) (has : (.ref a :: argsL).toArray = as') (hd : decode c.code pc = .ok (.invokevirtual index, 3)) (hq : pc + 3 = q) (hsz : L.size = c.maxLocals) (eT : T.heap = h)
    (hf : rm.frames + 1 ≤ R.frames) {W : Nat} (hW : (rest.map fun v => v.category).sum = W) (hl : W + (maxL + 11) + rm.locals ≤ R.locals) (hc : cells + rm.cells ≤ R.cells) (hs : slots + rm.slots ≤ R.slots)
    (k : ∀ v T' Lc, Stand p l e R s m args below meth c T' (locs ++ Lc) (cells + rm.cells) (slots + rm.slots) → Q v T'.heap Lc → Go p e below Φ (T'.setTop (mkF m q L (v.toList ++ rest)))) : Go p e below Φ (T.setTop (mkF m pc L S)) := by
  subst hq has
  obtain ⟨cq, q1, q2⟩ := Ex.cell
  have hp : s.PrivateAt y := Cond.privateMethod_at (mvP hZ w3 (args := args))
  obtain ⟨c1, k1, i1, i2, i3, i4, -⟩ := Cond.instantiable_spec (mvT (args := args) hZ w4)
  have hsel : (Jvm.Cond.selects y.cls y y).before args s = true := selects_self_of_private i1 i2 (Bool.or_eq_false_iff.mp i4).1 hp (mvT hZ w2) hy
  obtain ⟨v, _, ⟨T', L', k', n'⟩, -, X', ⟨Lc, hQ, l1, y1, z1⟩, st⟩ := X.privateBack hx (y := y) hown (mvT hZ w1) (mvT hZ w2) hsel hp (mvT hZ w6) hy (backOf (W := W) C hZ w6 w5 hf hl) (g := mkF m pc L S) rfl hsz (Steps.refl _) (a := a) (cell := cq) (by rw [eT]; exact q1) q2 (argsL := argsL) (rest := rest) (lenOf hpd hlen) hst (by show 2 * 0 + _ ≤ _; omega) hd (fun _ _ => ⟨rfl, eT, hc, hs⟩)
  dsimp only [Pt.U, Pt.locs, Pt.cells, Pt.slots] at X' l1 y1 z1 st hQ
  subst l1 y1 z1
  exact Go.by (fun _ r => st.trans r) (k v T' Lc X' hQ)
theorem g_acmp_eq (X : Stand p l e R s m args below meth c T locs cells slots) (hx : p.tables.exec = Jvm.exec) {o : Int} {q0 : Nat} {x y : Addr} (hd : decode c.code pc = .ok (.if_acmp .eq o, 3)) (ho : 0 ≤ (pc : Int) + o) (hq : ((pc : Int) + o).toNat = q) (hq0 : pc + 3 = q0) (k1 : x = y → Go p e below Φ (T.setTop (mkF m q L S))) (k0 : x ≠ y → Go p e below Φ (T.setTop (mkF m q0 L S))) : Go p e below Φ (T.setTop (mkF m pc L (.ref y :: .ref x :: S))) := by
  subst hq0
  by_cases hb : x = y
  · exact Go.by (fun _ => acmp X hx rfl rfl rfl (same := true) rfl hd rfl (by simp [hb]) ho (by rw [if_pos (by rfl)]; exact hq.symm)) (k1 hb)
  · exact Go.by (fun _ => acmp X hx rfl rfl rfl (same := false) rfl hd rfl (by simp [hb]) ho (by rw [if_neg (by decide)])) (k0 hb)
theorem g_acmp_ne (X : Stand p l e R s m args below meth c T locs cells slots) (hx : p.tables.exec = Jvm.exec) {o : Int} {q0 : Nat} {x y : Addr} (hd : decode c.code pc = .ok (.if_acmp .ne o, 3)) (ho : 0 ≤ (pc : Int) + o) (hq : ((pc : Int) + o).toNat = q) (hq0 : pc + 3 = q0) (k1 : x ≠ y → Go p e below Φ (T.setTop (mkF m q L S))) (k0 : x = y → Go p e below Φ (T.setTop (mkF m q0 L S))) : Go p e below Φ (T.setTop (mkF m pc L (.ref y :: .ref x :: S))) := by
  subst hq0
  by_cases hb : x = y
  · exact Go.by (fun _ => acmp X hx rfl rfl rfl (same := true) rfl hd rfl (by simp [hb]) ho (by rw [if_neg (by decide)])) (k0 hb)
  · exact Go.by (fun _ => acmp X hx rfl rfl rfl (same := false) rfl hd rfl (by simp [hb]) ho (by rw [if_pos (by rfl)]; exact hq.symm)) (k1 hb)
theorem g_ifnull_no (X : Stand p l e R s m args below meth c T locs cells slots) (hx : p.tables.exec = Jvm.exec) {o : Int} {y : Addr} (hd : decode c.code pc = .ok (.ifnull o, 3)) (hq : pc + 3 = q) (k : Go p e below Φ (T.setTop (mkF m q L S))) : Go p e below Φ (T.setTop (mkF m pc L (.ref y :: S))) := by
  subst hq; exact Go.by (fun _ => XS.ifnullNo X.here hx rfl hd rfl) k
theorem g_ifnonnull_yes (X : Stand p l e R s m args below meth c T locs cells slots) (hx : p.tables.exec = Jvm.exec) {o : Int} {y : Addr} (hd : decode c.code pc = .ok (.ifnonnull o, 3)) (ho : 0 ≤ (pc : Int) + o) (hq : ((pc : Int) + o).toNat = q) (k : Go p e below Φ (T.setTop (mkF m q L S))) : Go p e below Φ (T.setTop (mkF m pc L (.ref y :: S))) := Go.by (fun _ => XS.ifnonnullYes X.here hx rfl rfl hd rfl ho hq) k
end OwnHeap
def RM_rm1 : Room := ({ frames := 0, cells := 0, slots := 0, locals := 0 } : Room)
theorem d1_0 : decode prog_39_method_10_code 0 = .ok (.iload_n 0, 1) := by decide +kernel
theorem d1_1 : decode prog_39_method_10_code 1 = .ok (.bipush 58, 2) := by decide +kernel
theorem d1_3 : decode prog_39_method_10_code 3 = .ok (.if_icmp .eq 194, 3) := by decide +kernel
theorem d1_6 : decode prog_39_method_10_code 6 = .ok (.iload_n 0, 1) := by decide +kernel
theorem d1_7 : decode prog_39_method_10_code 7 = .ok (.bipush 65, 2) := by decide +kernel
theorem d1_9 : decode prog_39_method_10_code 9 = .ok (.if_icmp .lt 9, 3) := by decide +kernel
theorem d1_12 : decode prog_39_method_10_code 12 = .ok (.iload_n 0, 1) := by decide +kernel
theorem d1_13 : decode prog_39_method_10_code 13 = .ok (.bipush 90, 2) := by decide +kernel
theorem d1_15 : decode prog_39_method_10_code 15 = .ok (.if_icmp .le 182, 3) := by decide +kernel
theorem d1_18 : decode prog_39_method_10_code 18 = .ok (.iload_n 0, 1) := by decide +kernel
theorem d1_19 : decode prog_39_method_10_code 19 = .ok (.bipush 95, 2) := by decide +kernel
theorem d1_21 : decode prog_39_method_10_code 21 = .ok (.if_icmp .eq 176, 3) := by decide +kernel
theorem d1_24 : decode prog_39_method_10_code 24 = .ok (.iload_n 0, 1) := by decide +kernel
theorem d1_25 : decode prog_39_method_10_code 25 = .ok (.bipush 97, 2) := by decide +kernel
theorem d1_27 : decode prog_39_method_10_code 27 = .ok (.if_icmp .lt 9, 3) := by decide +kernel
theorem d1_30 : decode prog_39_method_10_code 30 = .ok (.iload_n 0, 1) := by decide +kernel
theorem d1_31 : decode prog_39_method_10_code 31 = .ok (.bipush 122, 2) := by decide +kernel
theorem d1_33 : decode prog_39_method_10_code 33 = .ok (.if_icmp .le 164, 3) := by decide +kernel
theorem d1_36 : decode prog_39_method_10_code 36 = .ok (.iload_n 0, 1) := by decide +kernel
theorem d1_37 : decode prog_39_method_10_code 37 = .ok (.sipush 192, 3) := by decide +kernel
theorem d1_40 : decode prog_39_method_10_code 40 = .ok (.if_icmp .lt 10, 3) := by decide +kernel
theorem d1_43 : decode prog_39_method_10_code 43 = .ok (.iload_n 0, 1) := by decide +kernel
theorem d1_44 : decode prog_39_method_10_code 44 = .ok (.sipush 214, 3) := by decide +kernel
theorem d1_47 : decode prog_39_method_10_code 47 = .ok (.if_icmp .le 150, 3) := by decide +kernel
theorem d1_50 : decode prog_39_method_10_code 50 = .ok (.iload_n 0, 1) := by decide +kernel
theorem d1_51 : decode prog_39_method_10_code 51 = .ok (.sipush 216, 3) := by decide +kernel
theorem d1_54 : decode prog_39_method_10_code 54 = .ok (.if_icmp .lt 10, 3) := by decide +kernel
theorem d1_57 : decode prog_39_method_10_code 57 = .ok (.iload_n 0, 1) := by decide +kernel
theorem d1_58 : decode prog_39_method_10_code 58 = .ok (.sipush 246, 3) := by decide +kernel
theorem d1_61 : decode prog_39_method_10_code 61 = .ok (.if_icmp .le 136, 3) := by decide +kernel
theorem d1_64 : decode prog_39_method_10_code 64 = .ok (.iload_n 0, 1) := by decide +kernel
theorem d1_65 : decode prog_39_method_10_code 65 = .ok (.sipush 248, 3) := by decide +kernel
theorem d1_68 : decode prog_39_method_10_code 68 = .ok (.if_icmp .lt 10, 3) := by decide +kernel
theorem d1_71 : decode prog_39_method_10_code 71 = .ok (.iload_n 0, 1) := by decide +kernel
theorem d1_72 : decode prog_39_method_10_code 72 = .ok (.sipush 767, 3) := by decide +kernel
theorem d1_75 : decode prog_39_method_10_code 75 = .ok (.if_icmp .le 122, 3) := by decide +kernel
theorem d1_78 : decode prog_39_method_10_code 78 = .ok (.iload_n 0, 1) := by decide +kernel
theorem d1_79 : decode prog_39_method_10_code 79 = .ok (.sipush 880, 3) := by decide +kernel
theorem d1_82 : decode prog_39_method_10_code 82 = .ok (.if_icmp .lt 10, 3) := by decide +kernel
theorem d1_85 : decode prog_39_method_10_code 85 = .ok (.iload_n 0, 1) := by decide +kernel
theorem d1_86 : decode prog_39_method_10_code 86 = .ok (.sipush 893, 3) := by decide +kernel
theorem d1_89 : decode prog_39_method_10_code 89 = .ok (.if_icmp .le 108, 3) := by decide +kernel
theorem d1_92 : decode prog_39_method_10_code 92 = .ok (.iload_n 0, 1) := by decide +kernel
theorem d1_93 : decode prog_39_method_10_code 93 = .ok (.sipush 895, 3) := by decide +kernel
theorem d1_96 : decode prog_39_method_10_code 96 = .ok (.if_icmp .lt 10, 3) := by decide +kernel
theorem d1_99 : decode prog_39_method_10_code 99 = .ok (.iload_n 0, 1) := by decide +kernel
theorem d1_100 : decode prog_39_method_10_code 100 = .ok (.sipush 8191, 3) := by decide +kernel
theorem d1_103 : decode prog_39_method_10_code 103 = .ok (.if_icmp .le 94, 3) := by decide +kernel
theorem d1_106 : decode prog_39_method_10_code 106 = .ok (.iload_n 0, 1) := by decide +kernel
theorem d1_107 : decode prog_39_method_10_code 107 = .ok (.sipush 8204, 3) := by decide +kernel
theorem d1_110 : decode prog_39_method_10_code 110 = .ok (.if_icmp .lt 10, 3) := by decide +kernel
theorem d1_113 : decode prog_39_method_10_code 113 = .ok (.iload_n 0, 1) := by decide +kernel
theorem d1_114 : decode prog_39_method_10_code 114 = .ok (.sipush 8205, 3) := by decide +kernel
theorem d1_117 : decode prog_39_method_10_code 117 = .ok (.if_icmp .le 80, 3) := by decide +kernel
theorem d1_120 : decode prog_39_method_10_code 120 = .ok (.iload_n 0, 1) := by decide +kernel
theorem d1_121 : decode prog_39_method_10_code 121 = .ok (.sipush 8304, 3) := by decide +kernel
theorem d1_124 : decode prog_39_method_10_code 124 = .ok (.if_icmp .lt 10, 3) := by decide +kernel
theorem d1_127 : decode prog_39_method_10_code 127 = .ok (.iload_n 0, 1) := by decide +kernel
theorem d1_128 : decode prog_39_method_10_code 128 = .ok (.sipush 8591, 3) := by decide +kernel
theorem d1_131 : decode prog_39_method_10_code 131 = .ok (.if_icmp .le 66, 3) := by decide +kernel
theorem d1_134 : decode prog_39_method_10_code 134 = .ok (.iload_n 0, 1) := by decide +kernel
theorem d1_135 : decode prog_39_method_10_code 135 = .ok (.sipush 11264, 3) := by decide +kernel
theorem d1_138 : decode prog_39_method_10_code 138 = .ok (.if_icmp .lt 10, 3) := by decide +kernel
theorem d1_141 : decode prog_39_method_10_code 141 = .ok (.iload_n 0, 1) := by decide +kernel
theorem d1_142 : decode prog_39_method_10_code 142 = .ok (.sipush 12271, 3) := by decide +kernel
theorem d1_145 : decode prog_39_method_10_code 145 = .ok (.if_icmp .le 52, 3) := by decide +kernel
theorem d1_148 : decode prog_39_method_10_code 148 = .ok (.iload_n 0, 1) := by decide +kernel
theorem d1_149 : decode prog_39_method_10_code 149 = .ok (.sipush 12289, 3) := by decide +kernel
theorem d1_152 : decode prog_39_method_10_code 152 = .ok (.if_icmp .lt 9, 3) := by decide +kernel
theorem d1_155 : decode prog_39_method_10_code 155 = .ok (.iload_n 0, 1) := by decide +kernel
theorem d1_156 : decode prog_39_method_10_code 156 = .ok (.ldc 31, 2) := by decide +kernel
theorem d1_158 : decode prog_39_method_10_code 158 = .ok (.if_icmp .le 39, 3) := by decide +kernel
theorem d1_161 : decode prog_39_method_10_code 161 = .ok (.iload_n 0, 1) := by decide +kernel
theorem d1_162 : decode prog_39_method_10_code 162 = .ok (.ldc 67, 2) := by decide +kernel
theorem d1_164 : decode prog_39_method_10_code 164 = .ok (.if_icmp .lt 9, 3) := by decide +kernel
theorem d1_167 : decode prog_39_method_10_code 167 = .ok (.iload_n 0, 1) := by decide +kernel
theorem d1_168 : decode prog_39_method_10_code 168 = .ok (.ldc 68, 2) := by decide +kernel
theorem d1_170 : decode prog_39_method_10_code 170 = .ok (.if_icmp .le 27, 3) := by decide +kernel
theorem d1_173 : decode prog_39_method_10_code 173 = .ok (.iload_n 0, 1) := by decide +kernel
theorem d1_174 : decode prog_39_method_10_code 174 = .ok (.ldc 69, 2) := by decide +kernel
theorem d1_176 : decode prog_39_method_10_code 176 = .ok (.if_icmp .lt 9, 3) := by decide +kernel
theorem d1_179 : decode prog_39_method_10_code 179 = .ok (.iload_n 0, 1) := by decide +kernel
theorem d1_180 : decode prog_39_method_10_code 180 = .ok (.ldc 33, 2) := by decide +kernel
theorem d1_182 : decode prog_39_method_10_code 182 = .ok (.if_icmp .le 15, 3) := by decide +kernel
theorem d1_185 : decode prog_39_method_10_code 185 = .ok (.iload_n 0, 1) := by decide +kernel
theorem d1_186 : decode prog_39_method_10_code 186 = .ok (.ldc 34, 2) := by decide +kernel
theorem d1_188 : decode prog_39_method_10_code 188 = .ok (.if_icmp .lt 13, 3) := by decide +kernel
theorem d1_191 : decode prog_39_method_10_code 191 = .ok (.iload_n 0, 1) := by decide +kernel
theorem d1_192 : decode prog_39_method_10_code 192 = .ok (.ldc 70, 2) := by decide +kernel
theorem d1_194 : decode prog_39_method_10_code 194 = .ok (.if_icmp .gt 7, 3) := by decide +kernel
theorem d1_197 : decode prog_39_method_10_code 197 = .ok (.iconst 1, 1) := by decide +kernel
theorem d1_198 : decode prog_39_method_10_code 198 = .ok (.goto 4, 3) := by decide +kernel
theorem d1_201 : decode prog_39_method_10_code 201 = .ok (.iconst 0, 1) := by decide +kernel
theorem d1_202 : decode prog_39_method_10_code 202 = .ok (.ireturn, 1) := by decide +kernel
theorem ef_1 (m : MethodId) (z0 : Int32) : entryFrame m #[.int z0] 1 = mkF m 0 #[.val (.int z0)] [] := by first | (simp [entryFrame, mkF, argsToLocals, Value.category]; done) | rfl
theorem pn_0 : plainName site_234.cls = true := by first | (simp [plainName, overriddenIn]; done) | decide +kernel
set_option maxRecDepth 65536 in
set_option maxHeartbeats 40000000 in
theorem rm1 (l : Launch) (Z : State) (a0 : Array Value) (hw : ∀ d ∈ tables_1, d.before a0 Z = true) (ws : List Jvm.Cond) (a : Int32) (h0 : Heap) (n0 : Nat) (Z0 : n0 ≤ h0.size) :
    Ctr l Z site_234 prog_39_method_10_code 1 (some .boolean) RM_rm1 ws #[.int a] h0 (PQ (.int (b2i (decide ((58 ≤ a.toInt ∧ a.toInt ≤ 58) ∨ (65 ≤ a.toInt ∧ a.toInt ≤ 90) ∨ (95 ≤ a.toInt ∧ a.toInt ≤ 95) ∨ (97 ≤ a.toInt ∧ a.toInt ≤ 122) ∨ (192 ≤ a.toInt ∧ a.toInt ≤ 214) ∨ (216 ≤ a.toInt ∧ a.toInt ≤ 246) ∨ (248 ≤ a.toInt ∧ a.toInt ≤ 767) ∨ (880 ≤ a.toInt ∧ a.toInt ≤ 893) ∨ (895 ≤ a.toInt ∧ a.toInt ≤ 8191) ∨ (8204 ≤ a.toInt ∧ a.toInt ≤ 8205) ∨ (8304 ≤ a.toInt ∧ a.toInt ≤ 8591) ∨ (11264 ≤ a.toInt ∧ a.toInt ≤ 12271) ∨ (12289 ≤ a.toInt ∧ a.toInt ≤ 55295) ∨ (63744 ≤ a.toInt ∧ a.toInt ≤ 64975) ∨ (65008 ≤ a.toInt ∧ a.toInt ≤ 65533) ∨ (65536 ≤ a.toInt ∧ a.toInt ≤ 983039))))) h0) := by
  refine Ctr.of (plainFor_of_name pn_0) ?_
  intro p e s m below meth c s₁ hx hby hml hrt hlk hnm hown hZ X0 e0
  have N0 := Fr.nil n0
  refine Go.cast (ef_1 m a) ?_
  have LP185 : ∀  (T : State) (X : Stand p l e RM_rm1 s m #[.int a] below meth c T [] 0 0) (eT : T.heap = h0) (hk : a.toInt ≠ 58 ∧ (a.toInt < 65 ∨ 90 < a.toInt) ∧ a.toInt ≠ 95 ∧ (a.toInt < 97 ∨ 122 < a.toInt) ∧ (a.toInt < 192 ∨ 214 < a.toInt) ∧ (a.toInt < 216 ∨ 246 < a.toInt) ∧ (a.toInt < 248 ∨ 767 < a.toInt) ∧ (a.toInt < 880 ∨ 893 < a.toInt) ∧ (a.toInt < 895 ∨ 8191 < a.toInt) ∧ (a.toInt < 8204 ∨ 8205 < a.toInt) ∧ (a.toInt < 8304 ∨ 8591 < a.toInt) ∧ (a.toInt < 11264 ∨ 12271 < a.toInt) ∧ (a.toInt < 12289 ∨ 55295 < a.toInt) ∧ (a.toInt < 63744 ∨ 64975 < a.toInt) ∧ (a.toInt < 65008 ∨ 65533 < a.toInt)), Go p e below (Fin0 s RM_rm1 (PQ (.int (b2i (decide ((58 ≤ a.toInt ∧ a.toInt ≤ 58) ∨ (65 ≤ a.toInt ∧ a.toInt ≤ 90) ∨ (95 ≤ a.toInt ∧ a.toInt ≤ 95) ∨ (97 ≤ a.toInt ∧ a.toInt ≤ 122) ∨ (192 ≤ a.toInt ∧ a.toInt ≤ 214) ∨ (216 ≤ a.toInt ∧ a.toInt ≤ 246) ∨ (248 ≤ a.toInt ∧ a.toInt ≤ 767) ∨ (880 ≤ a.toInt ∧ a.toInt ≤ 893) ∨ (895 ≤ a.toInt ∧ a.toInt ≤ 8191) ∨ (8204 ≤ a.toInt ∧ a.toInt ≤ 8205) ∨ (8304 ≤ a.toInt ∧ a.toInt ≤ 8591) ∨ (11264 ≤ a.toInt ∧ a.toInt ≤ 12271) ∨ (12289 ≤ a.toInt ∧ a.toInt ≤ 55295) ∨ (63744 ≤ a.toInt ∧ a.toInt ≤ 64975) ∨ (65008 ≤ a.toInt ∧ a.toInt ≤ 65533) ∨ (65536 ≤ a.toInt ∧ a.toInt ≤ 983039))))) h0)) (T.setTop (mkF m 185 #[.val (.int a)] [])) := by
    intro T X eT hk
    refine g_iloadN (q := 186) X.here hx (hb hby d1_185) rfl rfl ?_
    refine g_ldcI (q := 188) X hx hZ hown (hw _ (List.mem_of_getElem? (i := 16) rfl)) (hb hby d1_186) rfl ?_
    refine g_icmp_lt (q := 201) (q0 := 191) X.here hx (hb hby d1_188) (by decide) (by decide) rfl ?_ ?_
    · intro c1
      refine g_iconst (q := 202) (v := (0 : Int32)) X.here hx (hb hby d1_201) rfl rfl ?_
      exact g_zreturn (b := false) X hx hlk hrt (hb hby d1_202) (by decide) (by decide) ⟨eqF (by (try simp only [Int32.reduceToInt, Int64.reduceToInt] at hk); (try simp only [Int32.reduceToInt, Int64.reduceToInt] at c1); have f1 := rng32 a; (try simp only [Int32.reduceToInt, Int64.reduceToInt] at f1); (try simp only [Int32.reduceToInt, Int64.reduceToInt, and_true, true_and, or_true, true_or]); (first | done | omega)), eT, rfl⟩
    · intro c1
      refine g_iloadN (q := 192) X.here hx (hb hby d1_191) rfl rfl ?_
      refine g_ldcI (q := 194) X hx hZ hown (hw _ (List.mem_of_getElem? (i := 28) rfl)) (hb hby d1_192) rfl ?_
      refine g_sel_icmp_gt (q := 202) X.here hx (hb hby d1_194) (by decide) (by decide) rfl (hb hby d1_201) (hb hby d1_197) (hb hby d1_198) rfl (by decide) (by decide) rfl ?_
      exact g_zreturn (b := decide (a.toInt ≤ (983039 : Int32).toInt)) X hx hlk hrt (hb hby d1_202) (by decide) (by decide) ⟨eqD (by (try simp only [Int32.reduceToInt, Int64.reduceToInt] at hk); (try simp only [Int32.reduceToInt, Int64.reduceToInt] at c1); have f1 := rng32 a; (try simp only [Int32.reduceToInt, Int64.reduceToInt] at f1); (try simp only [Int32.reduceToInt, Int64.reduceToInt, and_true, true_and, or_true, true_or]); (first | done | omega)), eT, rfl⟩
  have LP173 : ∀  (T : State) (X : Stand p l e RM_rm1 s m #[.int a] below meth c T [] 0 0) (eT : T.heap = h0) (hk : a.toInt ≠ 58 ∧ (a.toInt < 65 ∨ 90 < a.toInt) ∧ a.toInt ≠ 95 ∧ (a.toInt < 97 ∨ 122 < a.toInt) ∧ (a.toInt < 192 ∨ 214 < a.toInt) ∧ (a.toInt < 216 ∨ 246 < a.toInt) ∧ (a.toInt < 248 ∨ 767 < a.toInt) ∧ (a.toInt < 880 ∨ 893 < a.toInt) ∧ (a.toInt < 895 ∨ 8191 < a.toInt) ∧ (a.toInt < 8204 ∨ 8205 < a.toInt) ∧ (a.toInt < 8304 ∨ 8591 < a.toInt) ∧ (a.toInt < 11264 ∨ 12271 < a.toInt) ∧ (a.toInt < 12289 ∨ 55295 < a.toInt) ∧ (a.toInt < 63744 ∨ 64975 < a.toInt)), Go p e below (Fin0 s RM_rm1 (PQ (.int (b2i (decide ((58 ≤ a.toInt ∧ a.toInt ≤ 58) ∨ (65 ≤ a.toInt ∧ a.toInt ≤ 90) ∨ (95 ≤ a.toInt ∧ a.toInt ≤ 95) ∨ (97 ≤ a.toInt ∧ a.toInt ≤ 122) ∨ (192 ≤ a.toInt ∧ a.toInt ≤ 214) ∨ (216 ≤ a.toInt ∧ a.toInt ≤ 246) ∨ (248 ≤ a.toInt ∧ a.toInt ≤ 767) ∨ (880 ≤ a.toInt ∧ a.toInt ≤ 893) ∨ (895 ≤ a.toInt ∧ a.toInt ≤ 8191) ∨ (8204 ≤ a.toInt ∧ a.toInt ≤ 8205) ∨ (8304 ≤ a.toInt ∧ a.toInt ≤ 8591) ∨ (11264 ≤ a.toInt ∧ a.toInt ≤ 12271) ∨ (12289 ≤ a.toInt ∧ a.toInt ≤ 55295) ∨ (63744 ≤ a.toInt ∧ a.toInt ≤ 64975) ∨ (65008 ≤ a.toInt ∧ a.toInt ≤ 65533) ∨ (65536 ≤ a.toInt ∧ a.toInt ≤ 983039))))) h0)) (T.setTop (mkF m 173 #[.val (.int a)] [])) := by
    intro T X eT hk
    refine g_iloadN (q := 174) X.here hx (hb hby d1_173) rfl rfl ?_
    refine g_ldcI (q := 176) X hx hZ hown (hw _ (List.mem_of_getElem? (i := 15) rfl)) (hb hby d1_174) rfl ?_
    refine g_icmp_lt (q := 185) (q0 := 179) X.here hx (hb hby d1_176) (by decide) (by decide) rfl ?_ ?_
    · intro c2
      exact LP185  _ X eT (by (try simp only [Int32.reduceToInt, Int64.reduceToInt] at hk); (try simp only [Int32.reduceToInt, Int64.reduceToInt] at c2); have f1 := rng32 a; (try simp only [Int32.reduceToInt, Int64.reduceToInt] at f1); (try simp only [Int32.reduceToInt, Int64.reduceToInt, and_true, true_and, or_true, true_or]); (first | done | omega))
    · intro c2
      refine g_iloadN (q := 180) X.here hx (hb hby d1_179) rfl rfl ?_
      refine g_ldcI (q := 182) X hx hZ hown (hw _ (List.mem_of_getElem? (i := 27) rfl)) (hb hby d1_180) rfl ?_
      refine g_icmp_le (q := 197) (q0 := 185) X.here hx (hb hby d1_182) (by decide) (by decide) rfl ?_ ?_
      · intro c3
        refine g_iconst (q := 198) (v := (1 : Int32)) X.here hx (hb hby d1_197) rfl rfl ?_
        refine g_goto (q := 202) X.here hx (hb hby d1_198) (by decide) (by decide) ?_
        exact g_zreturn (b := true) X hx hlk hrt (hb hby d1_202) (by decide) (by decide) ⟨eqT (by (try simp only [Int32.reduceToInt, Int64.reduceToInt] at hk); (try simp only [Int32.reduceToInt, Int64.reduceToInt] at c2); (try simp only [Int32.reduceToInt, Int64.reduceToInt] at c3); have f1 := rng32 a; (try simp only [Int32.reduceToInt, Int64.reduceToInt] at f1); (try simp only [Int32.reduceToInt, Int64.reduceToInt, and_true, true_and, or_true, true_or]); (first | done | omega)), eT, rfl⟩
      · intro c3
        exact LP185  _ X eT (by (try simp only [Int32.reduceToInt, Int64.reduceToInt] at hk); (try simp only [Int32.reduceToInt, Int64.reduceToInt] at c2); (try simp only [Int32.reduceToInt, Int64.reduceToInt] at c3); have f1 := rng32 a; (try simp only [Int32.reduceToInt, Int64.reduceToInt] at f1); (try simp only [Int32.reduceToInt, Int64.reduceToInt, and_true, true_and, or_true, true_or]); (first | done | omega))
  have LP161 : ∀  (T : State) (X : Stand p l e RM_rm1 s m #[.int a] below meth c T [] 0 0) (eT : T.heap = h0) (hk : a.toInt ≠ 58 ∧ (a.toInt < 65 ∨ 90 < a.toInt) ∧ a.toInt ≠ 95 ∧ (a.toInt < 97 ∨ 122 < a.toInt) ∧ (a.toInt < 192 ∨ 214 < a.toInt) ∧ (a.toInt < 216 ∨ 246 < a.toInt) ∧ (a.toInt < 248 ∨ 767 < a.toInt) ∧ (a.toInt < 880 ∨ 893 < a.toInt) ∧ (a.toInt < 895 ∨ 8191 < a.toInt) ∧ (a.toInt < 8204 ∨ 8205 < a.toInt) ∧ (a.toInt < 8304 ∨ 8591 < a.toInt) ∧ (a.toInt < 11264 ∨ 12271 < a.toInt) ∧ (a.toInt < 12289 ∨ 55295 < a.toInt)), Go p e below (Fin0 s RM_rm1 (PQ (.int (b2i (decide ((58 ≤ a.toInt ∧ a.toInt ≤ 58) ∨ (65 ≤ a.toInt ∧ a.toInt ≤ 90) ∨ (95 ≤ a.toInt ∧ a.toInt ≤ 95) ∨ (97 ≤ a.toInt ∧ a.toInt ≤ 122) ∨ (192 ≤ a.toInt ∧ a.toInt ≤ 214) ∨ (216 ≤ a.toInt ∧ a.toInt ≤ 246) ∨ (248 ≤ a.toInt ∧ a.toInt ≤ 767) ∨ (880 ≤ a.toInt ∧ a.toInt ≤ 893) ∨ (895 ≤ a.toInt ∧ a.toInt ≤ 8191) ∨ (8204 ≤ a.toInt ∧ a.toInt ≤ 8205) ∨ (8304 ≤ a.toInt ∧ a.toInt ≤ 8591) ∨ (11264 ≤ a.toInt ∧ a.toInt ≤ 12271) ∨ (12289 ≤ a.toInt ∧ a.toInt ≤ 55295) ∨ (63744 ≤ a.toInt ∧ a.toInt ≤ 64975) ∨ (65008 ≤ a.toInt ∧ a.toInt ≤ 65533) ∨ (65536 ≤ a.toInt ∧ a.toInt ≤ 983039))))) h0)) (T.setTop (mkF m 161 #[.val (.int a)] [])) := by
    intro T X eT hk
    refine g_iloadN (q := 162) X.here hx (hb hby d1_161) rfl rfl ?_
    refine g_ldcI (q := 164) X hx hZ hown (hw _ (List.mem_of_getElem? (i := 14) rfl)) (hb hby d1_162) rfl ?_
    refine g_icmp_lt (q := 173) (q0 := 167) X.here hx (hb hby d1_164) (by decide) (by decide) rfl ?_ ?_
    · intro c4
      exact LP173  _ X eT (by (try simp only [Int32.reduceToInt, Int64.reduceToInt] at hk); (try simp only [Int32.reduceToInt, Int64.reduceToInt] at c4); have f1 := rng32 a; (try simp only [Int32.reduceToInt, Int64.reduceToInt] at f1); (try simp only [Int32.reduceToInt, Int64.reduceToInt, and_true, true_and, or_true, true_or]); (first | done | omega))
    · intro c4
      refine g_iloadN (q := 168) X.here hx (hb hby d1_167) rfl rfl ?_
      refine g_ldcI (q := 170) X hx hZ hown (hw _ (List.mem_of_getElem? (i := 26) rfl)) (hb hby d1_168) rfl ?_
      refine g_icmp_le (q := 197) (q0 := 173) X.here hx (hb hby d1_170) (by decide) (by decide) rfl ?_ ?_
      · intro c5
        refine g_iconst (q := 198) (v := (1 : Int32)) X.here hx (hb hby d1_197) rfl rfl ?_
        refine g_goto (q := 202) X.here hx (hb hby d1_198) (by decide) (by decide) ?_
        exact g_zreturn (b := true) X hx hlk hrt (hb hby d1_202) (by decide) (by decide) ⟨eqT (by (try simp only [Int32.reduceToInt, Int64.reduceToInt] at hk); (try simp only [Int32.reduceToInt, Int64.reduceToInt] at c4); (try simp only [Int32.reduceToInt, Int64.reduceToInt] at c5); have f1 := rng32 a; (try simp only [Int32.reduceToInt, Int64.reduceToInt] at f1); (try simp only [Int32.reduceToInt, Int64.reduceToInt, and_true, true_and, or_true, true_or]); (first | done | omega)), eT, rfl⟩
      · intro c5
        exact LP173  _ X eT (by (try simp only [Int32.reduceToInt, Int64.reduceToInt] at hk); (try simp only [Int32.reduceToInt, Int64.reduceToInt] at c4); (try simp only [Int32.reduceToInt, Int64.reduceToInt] at c5); have f1 := rng32 a; (try simp only [Int32.reduceToInt, Int64.reduceToInt] at f1); (try simp only [Int32.reduceToInt, Int64.reduceToInt, and_true, true_and, or_true, true_or]); (first | done | omega))
  have LP148 : ∀  (T : State) (X : Stand p l e RM_rm1 s m #[.int a] below meth c T [] 0 0) (eT : T.heap = h0) (hk : a.toInt ≠ 58 ∧ (a.toInt < 65 ∨ 90 < a.toInt) ∧ a.toInt ≠ 95 ∧ (a.toInt < 97 ∨ 122 < a.toInt) ∧ (a.toInt < 192 ∨ 214 < a.toInt) ∧ (a.toInt < 216 ∨ 246 < a.toInt) ∧ (a.toInt < 248 ∨ 767 < a.toInt) ∧ (a.toInt < 880 ∨ 893 < a.toInt) ∧ (a.toInt < 895 ∨ 8191 < a.toInt) ∧ (a.toInt < 8204 ∨ 8205 < a.toInt) ∧ (a.toInt < 8304 ∨ 8591 < a.toInt) ∧ (a.toInt < 11264 ∨ 12271 < a.toInt)), Go p e below (Fin0 s RM_rm1 (PQ (.int (b2i (decide ((58 ≤ a.toInt ∧ a.toInt ≤ 58) ∨ (65 ≤ a.toInt ∧ a.toInt ≤ 90) ∨ (95 ≤ a.toInt ∧ a.toInt ≤ 95) ∨ (97 ≤ a.toInt ∧ a.toInt ≤ 122) ∨ (192 ≤ a.toInt ∧ a.toInt ≤ 214) ∨ (216 ≤ a.toInt ∧ a.toInt ≤ 246) ∨ (248 ≤ a.toInt ∧ a.toInt ≤ 767) ∨ (880 ≤ a.toInt ∧ a.toInt ≤ 893) ∨ (895 ≤ a.toInt ∧ a.toInt ≤ 8191) ∨ (8204 ≤ a.toInt ∧ a.toInt ≤ 8205) ∨ (8304 ≤ a.toInt ∧ a.toInt ≤ 8591) ∨ (11264 ≤ a.toInt ∧ a.toInt ≤ 12271) ∨ (12289 ≤ a.toInt ∧ a.toInt ≤ 55295) ∨ (63744 ≤ a.toInt ∧ a.toInt ≤ 64975) ∨ (65008 ≤ a.toInt ∧ a.toInt ≤ 65533) ∨ (65536 ≤ a.toInt ∧ a.toInt ≤ 983039))))) h0)) (T.setTop (mkF m 148 #[.val (.int a)] [])) := by
    intro T X eT hk
    refine g_iloadN (q := 149) X.here hx (hb hby d1_148) rfl rfl ?_
    refine g_sipush (q := 152) (v := (12289 : Int32)) X.here hx (hb hby d1_149) rfl rfl ?_
    refine g_icmp_lt (q := 161) (q0 := 155) X.here hx (hb hby d1_152) (by decide) (by decide) rfl ?_ ?_
    · intro c6
      exact LP161  _ X eT (by (try simp only [Int32.reduceToInt, Int64.reduceToInt] at hk); (try simp only [Int32.reduceToInt, Int64.reduceToInt] at c6); have f1 := rng32 a; (try simp only [Int32.reduceToInt, Int64.reduceToInt] at f1); (try simp only [Int32.reduceToInt, Int64.reduceToInt, and_true, true_and, or_true, true_or]); (first | done | omega))
    · intro c6
      refine g_iloadN (q := 156) X.here hx (hb hby d1_155) rfl rfl ?_
      refine g_ldcI (q := 158) X hx hZ hown (hw _ (List.mem_of_getElem? (i := 25) rfl)) (hb hby d1_156) rfl ?_
      refine g_icmp_le (q := 197) (q0 := 161) X.here hx (hb hby d1_158) (by decide) (by decide) rfl ?_ ?_
      · intro c7
        refine g_iconst (q := 198) (v := (1 : Int32)) X.here hx (hb hby d1_197) rfl rfl ?_
        refine g_goto (q := 202) X.here hx (hb hby d1_198) (by decide) (by decide) ?_
        exact g_zreturn (b := true) X hx hlk hrt (hb hby d1_202) (by decide) (by decide) ⟨eqT (by (try simp only [Int32.reduceToInt, Int64.reduceToInt] at hk); (try simp only [Int32.reduceToInt, Int64.reduceToInt] at c6); (try simp only [Int32.reduceToInt, Int64.reduceToInt] at c7); have f1 := rng32 a; (try simp only [Int32.reduceToInt, Int64.reduceToInt] at f1); (try simp only [Int32.reduceToInt, Int64.reduceToInt, and_true, true_and, or_true, true_or]); (first | done | omega)), eT, rfl⟩
      · intro c7
        exact LP161  _ X eT (by (try simp only [Int32.reduceToInt, Int64.reduceToInt] at hk); (try simp only [Int32.reduceToInt, Int64.reduceToInt] at c6); (try simp only [Int32.reduceToInt, Int64.reduceToInt] at c7); have f1 := rng32 a; (try simp only [Int32.reduceToInt, Int64.reduceToInt] at f1); (try simp only [Int32.reduceToInt, Int64.reduceToInt, and_true, true_and, or_true, true_or]); (first | done | omega))
  have LP134 : ∀  (T : State) (X : Stand p l e RM_rm1 s m #[.int a] below meth c T [] 0 0) (eT : T.heap = h0) (hk : a.toInt ≠ 58 ∧ (a.toInt < 65 ∨ 90 < a.toInt) ∧ a.toInt ≠ 95 ∧ (a.toInt < 97 ∨ 122 < a.toInt) ∧ (a.toInt < 192 ∨ 214 < a.toInt) ∧ (a.toInt < 216 ∨ 246 < a.toInt) ∧ (a.toInt < 248 ∨ 767 < a.toInt) ∧ (a.toInt < 880 ∨ 893 < a.toInt) ∧ (a.toInt < 895 ∨ 8191 < a.toInt) ∧ (a.toInt < 8204 ∨ 8205 < a.toInt) ∧ (a.toInt < 8304 ∨ 8591 < a.toInt)), Go p e below (Fin0 s RM_rm1 (PQ (.int (b2i (decide ((58 ≤ a.toInt ∧ a.toInt ≤ 58) ∨ (65 ≤ a.toInt ∧ a.toInt ≤ 90) ∨ (95 ≤ a.toInt ∧ a.toInt ≤ 95) ∨ (97 ≤ a.toInt ∧ a.toInt ≤ 122) ∨ (192 ≤ a.toInt ∧ a.toInt ≤ 214) ∨ (216 ≤ a.toInt ∧ a.toInt ≤ 246) ∨ (248 ≤ a.toInt ∧ a.toInt ≤ 767) ∨ (880 ≤ a.toInt ∧ a.toInt ≤ 893) ∨ (895 ≤ a.toInt ∧ a.toInt ≤ 8191) ∨ (8204 ≤ a.toInt ∧ a.toInt ≤ 8205) ∨ (8304 ≤ a.toInt ∧ a.toInt ≤ 8591) ∨ (11264 ≤ a.toInt ∧ a.toInt ≤ 12271) ∨ (12289 ≤ a.toInt ∧ a.toInt ≤ 55295) ∨ (63744 ≤ a.toInt ∧ a.toInt ≤ 64975) ∨ (65008 ≤ a.toInt ∧ a.toInt ≤ 65533) ∨ (65536 ≤ a.toInt ∧ a.toInt ≤ 983039))))) h0)) (T.setTop (mkF m 134 #[.val (.int a)] [])) := by
    intro T X eT hk
    refine g_iloadN (q := 135) X.here hx (hb hby d1_134) rfl rfl ?_
    refine g_sipush (q := 138) (v := (11264 : Int32)) X.here hx (hb hby d1_135) rfl rfl ?_
    refine g_icmp_lt (q := 148) (q0 := 141) X.here hx (hb hby d1_138) (by decide) (by decide) rfl ?_ ?_
    · intro c8
      exact LP148  _ X eT (by (try simp only [Int32.reduceToInt, Int64.reduceToInt] at hk); (try simp only [Int32.reduceToInt, Int64.reduceToInt] at c8); have f1 := rng32 a; (try simp only [Int32.reduceToInt, Int64.reduceToInt] at f1); (try simp only [Int32.reduceToInt, Int64.reduceToInt, and_true, true_and, or_true, true_or]); (first | done | omega))
    · intro c8
      refine g_iloadN (q := 142) X.here hx (hb hby d1_141) rfl rfl ?_
      refine g_sipush (q := 145) (v := (12271 : Int32)) X.here hx (hb hby d1_142) rfl rfl ?_
      refine g_icmp_le (q := 197) (q0 := 148) X.here hx (hb hby d1_145) (by decide) (by decide) rfl ?_ ?_
      · intro c9
        refine g_iconst (q := 198) (v := (1 : Int32)) X.here hx (hb hby d1_197) rfl rfl ?_
        refine g_goto (q := 202) X.here hx (hb hby d1_198) (by decide) (by decide) ?_
        exact g_zreturn (b := true) X hx hlk hrt (hb hby d1_202) (by decide) (by decide) ⟨eqT (by (try simp only [Int32.reduceToInt, Int64.reduceToInt] at hk); (try simp only [Int32.reduceToInt, Int64.reduceToInt] at c8); (try simp only [Int32.reduceToInt, Int64.reduceToInt] at c9); have f1 := rng32 a; (try simp only [Int32.reduceToInt, Int64.reduceToInt] at f1); (try simp only [Int32.reduceToInt, Int64.reduceToInt, and_true, true_and, or_true, true_or]); (first | done | omega)), eT, rfl⟩
      · intro c9
        exact LP148  _ X eT (by (try simp only [Int32.reduceToInt, Int64.reduceToInt] at hk); (try simp only [Int32.reduceToInt, Int64.reduceToInt] at c8); (try simp only [Int32.reduceToInt, Int64.reduceToInt] at c9); have f1 := rng32 a; (try simp only [Int32.reduceToInt, Int64.reduceToInt] at f1); (try simp only [Int32.reduceToInt, Int64.reduceToInt, and_true, true_and, or_true, true_or]); (first | done | omega))
  have LP120 : ∀  (T : State) (X : Stand p l e RM_rm1 s m #[.int a] below meth c T [] 0 0) (eT : T.heap = h0) (hk : a.toInt ≠ 58 ∧ (a.toInt < 65 ∨ 90 < a.toInt) ∧ a.toInt ≠ 95 ∧ (a.toInt < 97 ∨ 122 < a.toInt) ∧ (a.toInt < 192 ∨ 214 < a.toInt) ∧ (a.toInt < 216 ∨ 246 < a.toInt) ∧ (a.toInt < 248 ∨ 767 < a.toInt) ∧ (a.toInt < 880 ∨ 893 < a.toInt) ∧ (a.toInt < 895 ∨ 8191 < a.toInt) ∧ (a.toInt < 8204 ∨ 8205 < a.toInt)), Go p e below (Fin0 s RM_rm1 (PQ (.int (b2i (decide ((58 ≤ a.toInt ∧ a.toInt ≤ 58) ∨ (65 ≤ a.toInt ∧ a.toInt ≤ 90) ∨ (95 ≤ a.toInt ∧ a.toInt ≤ 95) ∨ (97 ≤ a.toInt ∧ a.toInt ≤ 122) ∨ (192 ≤ a.toInt ∧ a.toInt ≤ 214) ∨ (216 ≤ a.toInt ∧ a.toInt ≤ 246) ∨ (248 ≤ a.toInt ∧ a.toInt ≤ 767) ∨ (880 ≤ a.toInt ∧ a.toInt ≤ 893) ∨ (895 ≤ a.toInt ∧ a.toInt ≤ 8191) ∨ (8204 ≤ a.toInt ∧ a.toInt ≤ 8205) ∨ (8304 ≤ a.toInt ∧ a.toInt ≤ 8591) ∨ (11264 ≤ a.toInt ∧ a.toInt ≤ 12271) ∨ (12289 ≤ a.toInt ∧ a.toInt ≤ 55295) ∨ (63744 ≤ a.toInt ∧ a.toInt ≤ 64975) ∨ (65008 ≤ a.toInt ∧ a.toInt ≤ 65533) ∨ (65536 ≤ a.toInt ∧ a.toInt ≤ 983039))))) h0)) (T.setTop (mkF m 120 #[.val (.int a)] [])) := by
    intro T X eT hk
    refine g_iloadN (q := 121) X.here hx (hb hby d1_120) rfl rfl ?_
    refine g_sipush (q := 124) (v := (8304 : Int32)) X.here hx (hb hby d1_121) rfl rfl ?_
    refine g_icmp_lt (q := 134) (q0 := 127) X.here hx (hb hby d1_124) (by decide) (by decide) rfl ?_ ?_
    · intro c10
      exact LP134  _ X eT (by (try simp only [Int32.reduceToInt, Int64.reduceToInt] at hk); (try simp only [Int32.reduceToInt, Int64.reduceToInt] at c10); have f1 := rng32 a; (try simp only [Int32.reduceToInt, Int64.reduceToInt] at f1); (try simp only [Int32.reduceToInt, Int64.reduceToInt, and_true, true_and, or_true, true_or]); (first | done | omega))
    · intro c10
      refine g_iloadN (q := 128) X.here hx (hb hby d1_127) rfl rfl ?_
      refine g_sipush (q := 131) (v := (8591 : Int32)) X.here hx (hb hby d1_128) rfl rfl ?_
      refine g_icmp_le (q := 197) (q0 := 134) X.here hx (hb hby d1_131) (by decide) (by decide) rfl ?_ ?_
      · intro c11
        refine g_iconst (q := 198) (v := (1 : Int32)) X.here hx (hb hby d1_197) rfl rfl ?_
        refine g_goto (q := 202) X.here hx (hb hby d1_198) (by decide) (by decide) ?_
        exact g_zreturn (b := true) X hx hlk hrt (hb hby d1_202) (by decide) (by decide) ⟨eqT (by (try simp only [Int32.reduceToInt, Int64.reduceToInt] at hk); (try simp only [Int32.reduceToInt, Int64.reduceToInt] at c10); (try simp only [Int32.reduceToInt, Int64.reduceToInt] at c11); have f1 := rng32 a; (try simp only [Int32.reduceToInt, Int64.reduceToInt] at f1); (try simp only [Int32.reduceToInt, Int64.reduceToInt, and_true, true_and, or_true, true_or]); (first | done | omega)), eT, rfl⟩
      · intro c11
        exact LP134  _ X eT (by (try simp only [Int32.reduceToInt, Int64.reduceToInt] at hk); (try simp only [Int32.reduceToInt, Int64.reduceToInt] at c10); (try simp only [Int32.reduceToInt, Int64.reduceToInt] at c11); have f1 := rng32 a; (try simp only [Int32.reduceToInt, Int64.reduceToInt] at f1); (try simp only [Int32.reduceToInt, Int64.reduceToInt, and_true, true_and, or_true, true_or]); (first | done | omega))
  have LP106 : ∀  (T : State) (X : Stand p l e RM_rm1 s m #[.int a] below meth c T [] 0 0) (eT : T.heap = h0) (hk : a.toInt ≠ 58 ∧ (a.toInt < 65 ∨ 90 < a.toInt) ∧ a.toInt ≠ 95 ∧ (a.toInt < 97 ∨ 122 < a.toInt) ∧ (a.toInt < 192 ∨ 214 < a.toInt) ∧ (a.toInt < 216 ∨ 246 < a.toInt) ∧ (a.toInt < 248 ∨ 767 < a.toInt) ∧ (a.toInt < 880 ∨ 893 < a.toInt) ∧ (a.toInt < 895 ∨ 8191 < a.toInt)), Go p e below (Fin0 s RM_rm1 (PQ (.int (b2i (decide ((58 ≤ a.toInt ∧ a.toInt ≤ 58) ∨ (65 ≤ a.toInt ∧ a.toInt ≤ 90) ∨ (95 ≤ a.toInt ∧ a.toInt ≤ 95) ∨ (97 ≤ a.toInt ∧ a.toInt ≤ 122) ∨ (192 ≤ a.toInt ∧ a.toInt ≤ 214) ∨ (216 ≤ a.toInt ∧ a.toInt ≤ 246) ∨ (248 ≤ a.toInt ∧ a.toInt ≤ 767) ∨ (880 ≤ a.toInt ∧ a.toInt ≤ 893) ∨ (895 ≤ a.toInt ∧ a.toInt ≤ 8191) ∨ (8204 ≤ a.toInt ∧ a.toInt ≤ 8205) ∨ (8304 ≤ a.toInt ∧ a.toInt ≤ 8591) ∨ (11264 ≤ a.toInt ∧ a.toInt ≤ 12271) ∨ (12289 ≤ a.toInt ∧ a.toInt ≤ 55295) ∨ (63744 ≤ a.toInt ∧ a.toInt ≤ 64975) ∨ (65008 ≤ a.toInt ∧ a.toInt ≤ 65533) ∨ (65536 ≤ a.toInt ∧ a.toInt ≤ 983039))))) h0)) (T.setTop (mkF m 106 #[.val (.int a)] [])) := by
    intro T X eT hk
    refine g_iloadN (q := 107) X.here hx (hb hby d1_106) rfl rfl ?_
    refine g_sipush (q := 110) (v := (8204 : Int32)) X.here hx (hb hby d1_107) rfl rfl ?_
    refine g_icmp_lt (q := 120) (q0 := 113) X.here hx (hb hby d1_110) (by decide) (by decide) rfl ?_ ?_
    · intro c12
      exact LP120  _ X eT (by (try simp only [Int32.reduceToInt, Int64.reduceToInt] at hk); (try simp only [Int32.reduceToInt, Int64.reduceToInt] at c12); have f1 := rng32 a; (try simp only [Int32.reduceToInt, Int64.reduceToInt] at f1); (try simp only [Int32.reduceToInt, Int64.reduceToInt, and_true, true_and, or_true, true_or]); (first | done | omega))
    · intro c12
      refine g_iloadN (q := 114) X.here hx (hb hby d1_113) rfl rfl ?_
      refine g_sipush (q := 117) (v := (8205 : Int32)) X.here hx (hb hby d1_114) rfl rfl ?_
      refine g_icmp_le (q := 197) (q0 := 120) X.here hx (hb hby d1_117) (by decide) (by decide) rfl ?_ ?_
      · intro c13
        refine g_iconst (q := 198) (v := (1 : Int32)) X.here hx (hb hby d1_197) rfl rfl ?_
        refine g_goto (q := 202) X.here hx (hb hby d1_198) (by decide) (by decide) ?_
        exact g_zreturn (b := true) X hx hlk hrt (hb hby d1_202) (by decide) (by decide) ⟨eqT (by (try simp only [Int32.reduceToInt, Int64.reduceToInt] at hk); (try simp only [Int32.reduceToInt, Int64.reduceToInt] at c12); (try simp only [Int32.reduceToInt, Int64.reduceToInt] at c13); have f1 := rng32 a; (try simp only [Int32.reduceToInt, Int64.reduceToInt] at f1); (try simp only [Int32.reduceToInt, Int64.reduceToInt, and_true, true_and, or_true, true_or]); (first | done | omega)), eT, rfl⟩
      · intro c13
        exact LP120  _ X eT (by (try simp only [Int32.reduceToInt, Int64.reduceToInt] at hk); (try simp only [Int32.reduceToInt, Int64.reduceToInt] at c12); (try simp only [Int32.reduceToInt, Int64.reduceToInt] at c13); have f1 := rng32 a; (try simp only [Int32.reduceToInt, Int64.reduceToInt] at f1); (try simp only [Int32.reduceToInt, Int64.reduceToInt, and_true, true_and, or_true, true_or]); (first | done | omega))
  have LP92 : ∀  (T : State) (X : Stand p l e RM_rm1 s m #[.int a] below meth c T [] 0 0) (eT : T.heap = h0) (hk : a.toInt ≠ 58 ∧ (a.toInt < 65 ∨ 90 < a.toInt) ∧ a.toInt ≠ 95 ∧ (a.toInt < 97 ∨ 122 < a.toInt) ∧ (a.toInt < 192 ∨ 214 < a.toInt) ∧ (a.toInt < 216 ∨ 246 < a.toInt) ∧ (a.toInt < 248 ∨ 767 < a.toInt) ∧ (a.toInt < 880 ∨ 893 < a.toInt)), Go p e below (Fin0 s RM_rm1 (PQ (.int (b2i (decide ((58 ≤ a.toInt ∧ a.toInt ≤ 58) ∨ (65 ≤ a.toInt ∧ a.toInt ≤ 90) ∨ (95 ≤ a.toInt ∧ a.toInt ≤ 95) ∨ (97 ≤ a.toInt ∧ a.toInt ≤ 122) ∨ (192 ≤ a.toInt ∧ a.toInt ≤ 214) ∨ (216 ≤ a.toInt ∧ a.toInt ≤ 246) ∨ (248 ≤ a.toInt ∧ a.toInt ≤ 767) ∨ (880 ≤ a.toInt ∧ a.toInt ≤ 893) ∨ (895 ≤ a.toInt ∧ a.toInt ≤ 8191) ∨ (8204 ≤ a.toInt ∧ a.toInt ≤ 8205) ∨ (8304 ≤ a.toInt ∧ a.toInt ≤ 8591) ∨ (11264 ≤ a.toInt ∧ a.toInt ≤ 12271) ∨ (12289 ≤ a.toInt ∧ a.toInt ≤ 55295) ∨ (63744 ≤ a.toInt ∧ a.toInt ≤ 64975) ∨ (65008 ≤ a.toInt ∧ a.toInt ≤ 65533) ∨ (65536 ≤ a.toInt ∧ a.toInt ≤ 983039))))) h0)) (T.setTop (mkF m 92 #[.val (.int a)] [])) := by
    intro T X eT hk
    refine g_iloadN (q := 93) X.here hx (hb hby d1_92) rfl rfl ?_
    refine g_sipush (q := 96) (v := (895 : Int32)) X.here hx (hb hby d1_93) rfl rfl ?_
    refine g_icmp_lt (q := 106) (q0 := 99) X.here hx (hb hby d1_96) (by decide) (by decide) rfl ?_ ?_
    · intro c14
      exact LP106  _ X eT (by (try simp only [Int32.reduceToInt, Int64.reduceToInt] at hk); (try simp only [Int32.reduceToInt, Int64.reduceToInt] at c14); have f1 := rng32 a; (try simp only [Int32.reduceToInt, Int64.reduceToInt] at f1); (try simp only [Int32.reduceToInt, Int64.reduceToInt, and_true, true_and, or_true, true_or]); (first | done | omega))
    · intro c14
      refine g_iloadN (q := 100) X.here hx (hb hby d1_99) rfl rfl ?_
      refine g_sipush (q := 103) (v := (8191 : Int32)) X.here hx (hb hby d1_100) rfl rfl ?_
      refine g_icmp_le (q := 197) (q0 := 106) X.here hx (hb hby d1_103) (by decide) (by decide) rfl ?_ ?_
      · intro c15
        refine g_iconst (q := 198) (v := (1 : Int32)) X.here hx (hb hby d1_197) rfl rfl ?_
        refine g_goto (q := 202) X.here hx (hb hby d1_198) (by decide) (by decide) ?_
        exact g_zreturn (b := true) X hx hlk hrt (hb hby d1_202) (by decide) (by decide) ⟨eqT (by (try simp only [Int32.reduceToInt, Int64.reduceToInt] at hk); (try simp only [Int32.reduceToInt, Int64.reduceToInt] at c14); (try simp only [Int32.reduceToInt, Int64.reduceToInt] at c15); have f1 := rng32 a; (try simp only [Int32.reduceToInt, Int64.reduceToInt] at f1); (try simp only [Int32.reduceToInt, Int64.reduceToInt, and_true, true_and, or_true, true_or]); (first | done | omega)), eT, rfl⟩
      · intro c15
        exact LP106  _ X eT (by (try simp only [Int32.reduceToInt, Int64.reduceToInt] at hk); (try simp only [Int32.reduceToInt, Int64.reduceToInt] at c14); (try simp only [Int32.reduceToInt, Int64.reduceToInt] at c15); have f1 := rng32 a; (try simp only [Int32.reduceToInt, Int64.reduceToInt] at f1); (try simp only [Int32.reduceToInt, Int64.reduceToInt, and_true, true_and, or_true, true_or]); (first | done | omega))
  have LP78 : ∀  (T : State) (X : Stand p l e RM_rm1 s m #[.int a] below meth c T [] 0 0) (eT : T.heap = h0) (hk : a.toInt ≠ 58 ∧ (a.toInt < 65 ∨ 90 < a.toInt) ∧ a.toInt ≠ 95 ∧ (a.toInt < 97 ∨ 122 < a.toInt) ∧ (a.toInt < 192 ∨ 214 < a.toInt) ∧ (a.toInt < 216 ∨ 246 < a.toInt) ∧ (a.toInt < 248 ∨ 767 < a.toInt)), Go p e below (Fin0 s RM_rm1 (PQ (.int (b2i (decide ((58 ≤ a.toInt ∧ a.toInt ≤ 58) ∨ (65 ≤ a.toInt ∧ a.toInt ≤ 90) ∨ (95 ≤ a.toInt ∧ a.toInt ≤ 95) ∨ (97 ≤ a.toInt ∧ a.toInt ≤ 122) ∨ (192 ≤ a.toInt ∧ a.toInt ≤ 214) ∨ (216 ≤ a.toInt ∧ a.toInt ≤ 246) ∨ (248 ≤ a.toInt ∧ a.toInt ≤ 767) ∨ (880 ≤ a.toInt ∧ a.toInt ≤ 893) ∨ (895 ≤ a.toInt ∧ a.toInt ≤ 8191) ∨ (8204 ≤ a.toInt ∧ a.toInt ≤ 8205) ∨ (8304 ≤ a.toInt ∧ a.toInt ≤ 8591) ∨ (11264 ≤ a.toInt ∧ a.toInt ≤ 12271) ∨ (12289 ≤ a.toInt ∧ a.toInt ≤ 55295) ∨ (63744 ≤ a.toInt ∧ a.toInt ≤ 64975) ∨ (65008 ≤ a.toInt ∧ a.toInt ≤ 65533) ∨ (65536 ≤ a.toInt ∧ a.toInt ≤ 983039))))) h0)) (T.setTop (mkF m 78 #[.val (.int a)] [])) := by
    intro T X eT hk
    refine g_iloadN (q := 79) X.here hx (hb hby d1_78) rfl rfl ?_
    refine g_sipush (q := 82) (v := (880 : Int32)) X.here hx (hb hby d1_79) rfl rfl ?_
    refine g_icmp_lt (q := 92) (q0 := 85) X.here hx (hb hby d1_82) (by decide) (by decide) rfl ?_ ?_
    · intro c16
      exact LP92  _ X eT (by (try simp only [Int32.reduceToInt, Int64.reduceToInt] at hk); (try simp only [Int32.reduceToInt, Int64.reduceToInt] at c16); have f1 := rng32 a; (try simp only [Int32.reduceToInt, Int64.reduceToInt] at f1); (try simp only [Int32.reduceToInt, Int64.reduceToInt, and_true, true_and, or_true, true_or]); (first | done | omega))
    · intro c16
      refine g_iloadN (q := 86) X.here hx (hb hby d1_85) rfl rfl ?_
      refine g_sipush (q := 89) (v := (893 : Int32)) X.here hx (hb hby d1_86) rfl rfl ?_
      refine g_icmp_le (q := 197) (q0 := 92) X.here hx (hb hby d1_89) (by decide) (by decide) rfl ?_ ?_
      · intro c17
        refine g_iconst (q := 198) (v := (1 : Int32)) X.here hx (hb hby d1_197) rfl rfl ?_
        refine g_goto (q := 202) X.here hx (hb hby d1_198) (by decide) (by decide) ?_
        exact g_zreturn (b := true) X hx hlk hrt (hb hby d1_202) (by decide) (by decide) ⟨eqT (by (try simp only [Int32.reduceToInt, Int64.reduceToInt] at hk); (try simp only [Int32.reduceToInt, Int64.reduceToInt] at c16); (try simp only [Int32.reduceToInt, Int64.reduceToInt] at c17); have f1 := rng32 a; (try simp only [Int32.reduceToInt, Int64.reduceToInt] at f1); (try simp only [Int32.reduceToInt, Int64.reduceToInt, and_true, true_and, or_true, true_or]); (first | done | omega)), eT, rfl⟩
      · intro c17
        exact LP92  _ X eT (by (try simp only [Int32.reduceToInt, Int64.reduceToInt] at hk); (try simp only [Int32.reduceToInt, Int64.reduceToInt] at c16); (try simp only [Int32.reduceToInt, Int64.reduceToInt] at c17); have f1 := rng32 a; (try simp only [Int32.reduceToInt, Int64.reduceToInt] at f1); (try simp only [Int32.reduceToInt, Int64.reduceToInt, and_true, true_and, or_true, true_or]); (first | done | omega))
  have LP64 : ∀  (T : State) (X : Stand p l e RM_rm1 s m #[.int a] below meth c T [] 0 0) (eT : T.heap = h0) (hk : a.toInt ≠ 58 ∧ (a.toInt < 65 ∨ 90 < a.toInt) ∧ a.toInt ≠ 95 ∧ (a.toInt < 97 ∨ 122 < a.toInt) ∧ (a.toInt < 192 ∨ 214 < a.toInt) ∧ (a.toInt < 216 ∨ 246 < a.toInt)), Go p e below (Fin0 s RM_rm1 (PQ (.int (b2i (decide ((58 ≤ a.toInt ∧ a.toInt ≤ 58) ∨ (65 ≤ a.toInt ∧ a.toInt ≤ 90) ∨ (95 ≤ a.toInt ∧ a.toInt ≤ 95) ∨ (97 ≤ a.toInt ∧ a.toInt ≤ 122) ∨ (192 ≤ a.toInt ∧ a.toInt ≤ 214) ∨ (216 ≤ a.toInt ∧ a.toInt ≤ 246) ∨ (248 ≤ a.toInt ∧ a.toInt ≤ 767) ∨ (880 ≤ a.toInt ∧ a.toInt ≤ 893) ∨ (895 ≤ a.toInt ∧ a.toInt ≤ 8191) ∨ (8204 ≤ a.toInt ∧ a.toInt ≤ 8205) ∨ (8304 ≤ a.toInt ∧ a.toInt ≤ 8591) ∨ (11264 ≤ a.toInt ∧ a.toInt ≤ 12271) ∨ (12289 ≤ a.toInt ∧ a.toInt ≤ 55295) ∨ (63744 ≤ a.toInt ∧ a.toInt ≤ 64975) ∨ (65008 ≤ a.toInt ∧ a.toInt ≤ 65533) ∨ (65536 ≤ a.toInt ∧ a.toInt ≤ 983039))))) h0)) (T.setTop (mkF m 64 #[.val (.int a)] [])) := by
    intro T X eT hk
    refine g_iloadN (q := 65) X.here hx (hb hby d1_64) rfl rfl ?_
    refine g_sipush (q := 68) (v := (248 : Int32)) X.here hx (hb hby d1_65) rfl rfl ?_
    refine g_icmp_lt (q := 78) (q0 := 71) X.here hx (hb hby d1_68) (by decide) (by decide) rfl ?_ ?_
    · intro c18
      exact LP78  _ X eT (by (try simp only [Int32.reduceToInt, Int64.reduceToInt] at hk); (try simp only [Int32.reduceToInt, Int64.reduceToInt] at c18); have f1 := rng32 a; (try simp only [Int32.reduceToInt, Int64.reduceToInt] at f1); (try simp only [Int32.reduceToInt, Int64.reduceToInt, and_true, true_and, or_true, true_or]); (first | done | omega))
    · intro c18
      refine g_iloadN (q := 72) X.here hx (hb hby d1_71) rfl rfl ?_
      refine g_sipush (q := 75) (v := (767 : Int32)) X.here hx (hb hby d1_72) rfl rfl ?_
      refine g_icmp_le (q := 197) (q0 := 78) X.here hx (hb hby d1_75) (by decide) (by decide) rfl ?_ ?_
      · intro c19
        refine g_iconst (q := 198) (v := (1 : Int32)) X.here hx (hb hby d1_197) rfl rfl ?_
        refine g_goto (q := 202) X.here hx (hb hby d1_198) (by decide) (by decide) ?_
        exact g_zreturn (b := true) X hx hlk hrt (hb hby d1_202) (by decide) (by decide) ⟨eqT (by (try simp only [Int32.reduceToInt, Int64.reduceToInt] at hk); (try simp only [Int32.reduceToInt, Int64.reduceToInt] at c18); (try simp only [Int32.reduceToInt, Int64.reduceToInt] at c19); have f1 := rng32 a; (try simp only [Int32.reduceToInt, Int64.reduceToInt] at f1); (try simp only [Int32.reduceToInt, Int64.reduceToInt, and_true, true_and, or_true, true_or]); (first | done | omega)), eT, rfl⟩
      · intro c19
        exact LP78  _ X eT (by (try simp only [Int32.reduceToInt, Int64.reduceToInt] at hk); (try simp only [Int32.reduceToInt, Int64.reduceToInt] at c18); (try simp only [Int32.reduceToInt, Int64.reduceToInt] at c19); have f1 := rng32 a; (try simp only [Int32.reduceToInt, Int64.reduceToInt] at f1); (try simp only [Int32.reduceToInt, Int64.reduceToInt, and_true, true_and, or_true, true_or]); (first | done | omega))
  have LP50 : ∀  (T : State) (X : Stand p l e RM_rm1 s m #[.int a] below meth c T [] 0 0) (eT : T.heap = h0) (hk : a.toInt ≠ 58 ∧ (a.toInt < 65 ∨ 90 < a.toInt) ∧ a.toInt ≠ 95 ∧ (a.toInt < 97 ∨ 122 < a.toInt) ∧ (a.toInt < 192 ∨ 214 < a.toInt)), Go p e below (Fin0 s RM_rm1 (PQ (.int (b2i (decide ((58 ≤ a.toInt ∧ a.toInt ≤ 58) ∨ (65 ≤ a.toInt ∧ a.toInt ≤ 90) ∨ (95 ≤ a.toInt ∧ a.toInt ≤ 95) ∨ (97 ≤ a.toInt ∧ a.toInt ≤ 122) ∨ (192 ≤ a.toInt ∧ a.toInt ≤ 214) ∨ (216 ≤ a.toInt ∧ a.toInt ≤ 246) ∨ (248 ≤ a.toInt ∧ a.toInt ≤ 767) ∨ (880 ≤ a.toInt ∧ a.toInt ≤ 893) ∨ (895 ≤ a.toInt ∧ a.toInt ≤ 8191) ∨ (8204 ≤ a.toInt ∧ a.toInt ≤ 8205) ∨ (8304 ≤ a.toInt ∧ a.toInt ≤ 8591) ∨ (11264 ≤ a.toInt ∧ a.toInt ≤ 12271) ∨ (12289 ≤ a.toInt ∧ a.toInt ≤ 55295) ∨ (63744 ≤ a.toInt ∧ a.toInt ≤ 64975) ∨ (65008 ≤ a.toInt ∧ a.toInt ≤ 65533) ∨ (65536 ≤ a.toInt ∧ a.toInt ≤ 983039))))) h0)) (T.setTop (mkF m 50 #[.val (.int a)] [])) := by
    intro T X eT hk
    refine g_iloadN (q := 51) X.here hx (hb hby d1_50) rfl rfl ?_
    refine g_sipush (q := 54) (v := (216 : Int32)) X.here hx (hb hby d1_51) rfl rfl ?_
    refine g_icmp_lt (q := 64) (q0 := 57) X.here hx (hb hby d1_54) (by decide) (by decide) rfl ?_ ?_
    · intro c20
      exact LP64  _ X eT (by (try simp only [Int32.reduceToInt, Int64.reduceToInt] at hk); (try simp only [Int32.reduceToInt, Int64.reduceToInt] at c20); have f1 := rng32 a; (try simp only [Int32.reduceToInt, Int64.reduceToInt] at f1); (try simp only [Int32.reduceToInt, Int64.reduceToInt, and_true, true_and, or_true, true_or]); (first | done | omega))
    · intro c20
      refine g_iloadN (q := 58) X.here hx (hb hby d1_57) rfl rfl ?_
      refine g_sipush (q := 61) (v := (246 : Int32)) X.here hx (hb hby d1_58) rfl rfl ?_
      refine g_icmp_le (q := 197) (q0 := 64) X.here hx (hb hby d1_61) (by decide) (by decide) rfl ?_ ?_
      · intro c21
        refine g_iconst (q := 198) (v := (1 : Int32)) X.here hx (hb hby d1_197) rfl rfl ?_
        refine g_goto (q := 202) X.here hx (hb hby d1_198) (by decide) (by decide) ?_
        exact g_zreturn (b := true) X hx hlk hrt (hb hby d1_202) (by decide) (by decide) ⟨eqT (by (try simp only [Int32.reduceToInt, Int64.reduceToInt] at hk); (try simp only [Int32.reduceToInt, Int64.reduceToInt] at c20); (try simp only [Int32.reduceToInt, Int64.reduceToInt] at c21); have f1 := rng32 a; (try simp only [Int32.reduceToInt, Int64.reduceToInt] at f1); (try simp only [Int32.reduceToInt, Int64.reduceToInt, and_true, true_and, or_true, true_or]); (first | done | omega)), eT, rfl⟩
      · intro c21
        exact LP64  _ X eT (by (try simp only [Int32.reduceToInt, Int64.reduceToInt] at hk); (try simp only [Int32.reduceToInt, Int64.reduceToInt] at c20); (try simp only [Int32.reduceToInt, Int64.reduceToInt] at c21); have f1 := rng32 a; (try simp only [Int32.reduceToInt, Int64.reduceToInt] at f1); (try simp only [Int32.reduceToInt, Int64.reduceToInt, and_true, true_and, or_true, true_or]); (first | done | omega))
  have LP36 : ∀  (T : State) (X : Stand p l e RM_rm1 s m #[.int a] below meth c T [] 0 0) (eT : T.heap = h0) (hk : a.toInt ≠ 58 ∧ (a.toInt < 65 ∨ 90 < a.toInt) ∧ a.toInt ≠ 95 ∧ (a.toInt < 97 ∨ 122 < a.toInt)), Go p e below (Fin0 s RM_rm1 (PQ (.int (b2i (decide ((58 ≤ a.toInt ∧ a.toInt ≤ 58) ∨ (65 ≤ a.toInt ∧ a.toInt ≤ 90) ∨ (95 ≤ a.toInt ∧ a.toInt ≤ 95) ∨ (97 ≤ a.toInt ∧ a.toInt ≤ 122) ∨ (192 ≤ a.toInt ∧ a.toInt ≤ 214) ∨ (216 ≤ a.toInt ∧ a.toInt ≤ 246) ∨ (248 ≤ a.toInt ∧ a.toInt ≤ 767) ∨ (880 ≤ a.toInt ∧ a.toInt ≤ 893) ∨ (895 ≤ a.toInt ∧ a.toInt ≤ 8191) ∨ (8204 ≤ a.toInt ∧ a.toInt ≤ 8205) ∨ (8304 ≤ a.toInt ∧ a.toInt ≤ 8591) ∨ (11264 ≤ a.toInt ∧ a.toInt ≤ 12271) ∨ (12289 ≤ a.toInt ∧ a.toInt ≤ 55295) ∨ (63744 ≤ a.toInt ∧ a.toInt ≤ 64975) ∨ (65008 ≤ a.toInt ∧ a.toInt ≤ 65533) ∨ (65536 ≤ a.toInt ∧ a.toInt ≤ 983039))))) h0)) (T.setTop (mkF m 36 #[.val (.int a)] [])) := by
    intro T X eT hk
    refine g_iloadN (q := 37) X.here hx (hb hby d1_36) rfl rfl ?_
    refine g_sipush (q := 40) (v := (192 : Int32)) X.here hx (hb hby d1_37) rfl rfl ?_
    refine g_icmp_lt (q := 50) (q0 := 43) X.here hx (hb hby d1_40) (by decide) (by decide) rfl ?_ ?_
    · intro c22
      exact LP50  _ X eT (by (try simp only [Int32.reduceToInt, Int64.reduceToInt] at hk); (try simp only [Int32.reduceToInt, Int64.reduceToInt] at c22); have f1 := rng32 a; (try simp only [Int32.reduceToInt, Int64.reduceToInt] at f1); (try simp only [Int32.reduceToInt, Int64.reduceToInt, and_true, true_and, or_true, true_or]); (first | done | omega))
    · intro c22
      refine g_iloadN (q := 44) X.here hx (hb hby d1_43) rfl rfl ?_
      refine g_sipush (q := 47) (v := (214 : Int32)) X.here hx (hb hby d1_44) rfl rfl ?_
      refine g_icmp_le (q := 197) (q0 := 50) X.here hx (hb hby d1_47) (by decide) (by decide) rfl ?_ ?_
      · intro c23
        refine g_iconst (q := 198) (v := (1 : Int32)) X.here hx (hb hby d1_197) rfl rfl ?_
        refine g_goto (q := 202) X.here hx (hb hby d1_198) (by decide) (by decide) ?_
        exact g_zreturn (b := true) X hx hlk hrt (hb hby d1_202) (by decide) (by decide) ⟨eqT (by (try simp only [Int32.reduceToInt, Int64.reduceToInt] at hk); (try simp only [Int32.reduceToInt, Int64.reduceToInt] at c22); (try simp only [Int32.reduceToInt, Int64.reduceToInt] at c23); have f1 := rng32 a; (try simp only [Int32.reduceToInt, Int64.reduceToInt] at f1); (try simp only [Int32.reduceToInt, Int64.reduceToInt, and_true, true_and, or_true, true_or]); (first | done | omega)), eT, rfl⟩
      · intro c23
        exact LP50  _ X eT (by (try simp only [Int32.reduceToInt, Int64.reduceToInt] at hk); (try simp only [Int32.reduceToInt, Int64.reduceToInt] at c22); (try simp only [Int32.reduceToInt, Int64.reduceToInt] at c23); have f1 := rng32 a; (try simp only [Int32.reduceToInt, Int64.reduceToInt] at f1); (try simp only [Int32.reduceToInt, Int64.reduceToInt, and_true, true_and, or_true, true_or]); (first | done | omega))
  have LP18 : ∀  (T : State) (X : Stand p l e RM_rm1 s m #[.int a] below meth c T [] 0 0) (eT : T.heap = h0) (hk : a.toInt ≠ 58 ∧ (a.toInt < 65 ∨ 90 < a.toInt)), Go p e below (Fin0 s RM_rm1 (PQ (.int (b2i (decide ((58 ≤ a.toInt ∧ a.toInt ≤ 58) ∨ (65 ≤ a.toInt ∧ a.toInt ≤ 90) ∨ (95 ≤ a.toInt ∧ a.toInt ≤ 95) ∨ (97 ≤ a.toInt ∧ a.toInt ≤ 122) ∨ (192 ≤ a.toInt ∧ a.toInt ≤ 214) ∨ (216 ≤ a.toInt ∧ a.toInt ≤ 246) ∨ (248 ≤ a.toInt ∧ a.toInt ≤ 767) ∨ (880 ≤ a.toInt ∧ a.toInt ≤ 893) ∨ (895 ≤ a.toInt ∧ a.toInt ≤ 8191) ∨ (8204 ≤ a.toInt ∧ a.toInt ≤ 8205) ∨ (8304 ≤ a.toInt ∧ a.toInt ≤ 8591) ∨ (11264 ≤ a.toInt ∧ a.toInt ≤ 12271) ∨ (12289 ≤ a.toInt ∧ a.toInt ≤ 55295) ∨ (63744 ≤ a.toInt ∧ a.toInt ≤ 64975) ∨ (65008 ≤ a.toInt ∧ a.toInt ≤ 65533) ∨ (65536 ≤ a.toInt ∧ a.toInt ≤ 983039))))) h0)) (T.setTop (mkF m 18 #[.val (.int a)] [])) := by
    intro T X eT hk
    refine g_iloadN (q := 19) X.here hx (hb hby d1_18) rfl rfl ?_
    refine g_bipush (q := 21) (v := (95 : Int32)) X.here hx (hb hby d1_19) rfl rfl ?_
    refine g_icmp_eq (q := 197) (q0 := 24) X.here hx (hb hby d1_21) (by decide) (by decide) rfl ?_ ?_
    · intro c24
      refine g_iconst (q := 198) (v := (1 : Int32)) X.here hx (hb hby d1_197) rfl rfl ?_
      refine g_goto (q := 202) X.here hx (hb hby d1_198) (by decide) (by decide) ?_
      exact g_zreturn (b := true) X hx hlk hrt (hb hby d1_202) (by decide) (by decide) ⟨eqT (by (try simp only [Int32.reduceToInt, Int64.reduceToInt] at hk); (try simp only [Int32.reduceToInt, Int64.reduceToInt] at c24); have f1 := rng32 a; (try simp only [Int32.reduceToInt, Int64.reduceToInt] at f1); (try simp only [Int32.reduceToInt, Int64.reduceToInt, and_true, true_and, or_true, true_or]); (first | done | omega)), eT, rfl⟩
    · intro c24
      refine g_iloadN (q := 25) X.here hx (hb hby d1_24) rfl rfl ?_
      refine g_bipush (q := 27) (v := (97 : Int32)) X.here hx (hb hby d1_25) rfl rfl ?_
      refine g_icmp_lt (q := 36) (q0 := 30) X.here hx (hb hby d1_27) (by decide) (by decide) rfl ?_ ?_
      · intro c25
        exact LP36  _ X eT (by (try simp only [Int32.reduceToInt, Int64.reduceToInt] at hk); (try simp only [Int32.reduceToInt, Int64.reduceToInt] at c24); (try simp only [Int32.reduceToInt, Int64.reduceToInt] at c25); have f1 := rng32 a; (try simp only [Int32.reduceToInt, Int64.reduceToInt] at f1); (try simp only [Int32.reduceToInt, Int64.reduceToInt, and_true, true_and, or_true, true_or]); (first | done | omega))
      · intro c25
        refine g_iloadN (q := 31) X.here hx (hb hby d1_30) rfl rfl ?_
        refine g_bipush (q := 33) (v := (122 : Int32)) X.here hx (hb hby d1_31) rfl rfl ?_
        refine g_icmp_le (q := 197) (q0 := 36) X.here hx (hb hby d1_33) (by decide) (by decide) rfl ?_ ?_
        · intro c26
          refine g_iconst (q := 198) (v := (1 : Int32)) X.here hx (hb hby d1_197) rfl rfl ?_
          refine g_goto (q := 202) X.here hx (hb hby d1_198) (by decide) (by decide) ?_
          exact g_zreturn (b := true) X hx hlk hrt (hb hby d1_202) (by decide) (by decide) ⟨eqT (by (try simp only [Int32.reduceToInt, Int64.reduceToInt] at hk); (try simp only [Int32.reduceToInt, Int64.reduceToInt] at c24); (try simp only [Int32.reduceToInt, Int64.reduceToInt] at c25); (try simp only [Int32.reduceToInt, Int64.reduceToInt] at c26); have f1 := rng32 a; (try simp only [Int32.reduceToInt, Int64.reduceToInt] at f1); (try simp only [Int32.reduceToInt, Int64.reduceToInt, and_true, true_and, or_true, true_or]); (first | done | omega)), eT, rfl⟩
        · intro c26
          exact LP36  _ X eT (by (try simp only [Int32.reduceToInt, Int64.reduceToInt] at hk); (try simp only [Int32.reduceToInt, Int64.reduceToInt] at c24); (try simp only [Int32.reduceToInt, Int64.reduceToInt] at c25); (try simp only [Int32.reduceToInt, Int64.reduceToInt] at c26); have f1 := rng32 a; (try simp only [Int32.reduceToInt, Int64.reduceToInt] at f1); (try simp only [Int32.reduceToInt, Int64.reduceToInt, and_true, true_and, or_true, true_or]); (first | done | omega))
  refine g_iloadN (q := 1) X0.here hx (hb hby d1_0) rfl rfl ?_
  refine g_bipush (q := 3) (v := (58 : Int32)) X0.here hx (hb hby d1_1) rfl rfl ?_
  refine g_icmp_eq (q := 197) (q0 := 6) X0.here hx (hb hby d1_3) (by decide) (by decide) rfl ?_ ?_
  · intro c27
    refine g_iconst (q := 198) (v := (1 : Int32)) X0.here hx (hb hby d1_197) rfl rfl ?_
    refine g_goto (q := 202) X0.here hx (hb hby d1_198) (by decide) (by decide) ?_
    exact g_zreturn (b := true) X0 hx hlk hrt (hb hby d1_202) (by decide) (by decide) ⟨eqT (by (try simp only [Int32.reduceToInt, Int64.reduceToInt] at c27); have f1 := rng32 a; (try simp only [Int32.reduceToInt, Int64.reduceToInt] at f1); (try simp only [Int32.reduceToInt, Int64.reduceToInt, and_true, true_and, or_true, true_or]); (first | done | omega)), e0, rfl⟩
  · intro c27
    refine g_iloadN (q := 7) X0.here hx (hb hby d1_6) rfl rfl ?_
    refine g_bipush (q := 9) (v := (65 : Int32)) X0.here hx (hb hby d1_7) rfl rfl ?_
    refine g_icmp_lt (q := 18) (q0 := 12) X0.here hx (hb hby d1_9) (by decide) (by decide) rfl ?_ ?_
    · intro c28
      exact LP18  _ X0 e0 (by (try simp only [Int32.reduceToInt, Int64.reduceToInt] at c27); (try simp only [Int32.reduceToInt, Int64.reduceToInt] at c28); have f1 := rng32 a; (try simp only [Int32.reduceToInt, Int64.reduceToInt] at f1); (try simp only [Int32.reduceToInt, Int64.reduceToInt, and_true, true_and, or_true, true_or]); (first | done | omega))
    · intro c28
      refine g_iloadN (q := 13) X0.here hx (hb hby d1_12) rfl rfl ?_
      refine g_bipush (q := 15) (v := (90 : Int32)) X0.here hx (hb hby d1_13) rfl rfl ?_
      refine g_icmp_le (q := 197) (q0 := 18) X0.here hx (hb hby d1_15) (by decide) (by decide) rfl ?_ ?_
      · intro c29
        refine g_iconst (q := 198) (v := (1 : Int32)) X0.here hx (hb hby d1_197) rfl rfl ?_
        refine g_goto (q := 202) X0.here hx (hb hby d1_198) (by decide) (by decide) ?_
        exact g_zreturn (b := true) X0 hx hlk hrt (hb hby d1_202) (by decide) (by decide) ⟨eqT (by (try simp only [Int32.reduceToInt, Int64.reduceToInt] at c27); (try simp only [Int32.reduceToInt, Int64.reduceToInt] at c28); (try simp only [Int32.reduceToInt, Int64.reduceToInt] at c29); have f1 := rng32 a; (try simp only [Int32.reduceToInt, Int64.reduceToInt] at f1); (try simp only [Int32.reduceToInt, Int64.reduceToInt, and_true, true_and, or_true, true_or]); (first | done | omega)), e0, rfl⟩
      · intro c29
        exact LP18  _ X0 e0 (by (try simp only [Int32.reduceToInt, Int64.reduceToInt] at c27); (try simp only [Int32.reduceToInt, Int64.reduceToInt] at c28); (try simp only [Int32.reduceToInt, Int64.reduceToInt] at c29); have f1 := rng32 a; (try simp only [Int32.reduceToInt, Int64.reduceToInt] at f1); (try simp only [Int32.reduceToInt, Int64.reduceToInt, and_true, true_and, or_true, true_or]); (first | done | omega))
def RM_rm2 : Room := ({ frames := 0, cells := 0, slots := 0, locals := 0 } : Room)
theorem d2_0 : decode method_2_code 0 = .ok (.iload_n 0, 1) := by decide +kernel
theorem d2_1 : decode method_2_code 1 = .ok (.bipush 58, 2) := by decide +kernel
theorem d2_3 : decode method_2_code 3 = .ok (.if_icmp .lt 179, 3) := by decide +kernel
theorem d2_6 : decode method_2_code 6 = .ok (.iload_n 0, 1) := by decide +kernel
theorem d2_7 : decode method_2_code 7 = .ok (.bipush 59, 2) := by decide +kernel
theorem d2_9 : decode method_2_code 9 = .ok (.if_icmp .lt 9, 3) := by decide +kernel
theorem d2_12 : decode method_2_code 12 = .ok (.iload_n 0, 1) := by decide +kernel
theorem d2_13 : decode method_2_code 13 = .ok (.bipush 64, 2) := by decide +kernel
theorem d2_15 : decode method_2_code 15 = .ok (.if_icmp .le 167, 3) := by decide +kernel
theorem d2_18 : decode method_2_code 18 = .ok (.iload_n 0, 1) := by decide +kernel
theorem d2_19 : decode method_2_code 19 = .ok (.bipush 91, 2) := by decide +kernel
theorem d2_21 : decode method_2_code 21 = .ok (.if_icmp .lt 9, 3) := by decide +kernel
theorem d2_24 : decode method_2_code 24 = .ok (.iload_n 0, 1) := by decide +kernel
theorem d2_25 : decode method_2_code 25 = .ok (.bipush 94, 2) := by decide +kernel
theorem d2_27 : decode method_2_code 27 = .ok (.if_icmp .le 155, 3) := by decide +kernel
theorem d2_30 : decode method_2_code 30 = .ok (.iload_n 0, 1) := by decide +kernel
theorem d2_31 : decode method_2_code 31 = .ok (.bipush 96, 2) := by decide +kernel
theorem d2_33 : decode method_2_code 33 = .ok (.if_icmp .eq 149, 3) := by decide +kernel
theorem d2_36 : decode method_2_code 36 = .ok (.iload_n 0, 1) := by decide +kernel
theorem d2_37 : decode method_2_code 37 = .ok (.bipush 123, 2) := by decide +kernel
theorem d2_39 : decode method_2_code 39 = .ok (.if_icmp .lt 10, 3) := by decide +kernel
theorem d2_42 : decode method_2_code 42 = .ok (.iload_n 0, 1) := by decide +kernel
theorem d2_43 : decode method_2_code 43 = .ok (.sipush 191, 3) := by decide +kernel
theorem d2_46 : decode method_2_code 46 = .ok (.if_icmp .le 136, 3) := by decide +kernel
theorem d2_49 : decode method_2_code 49 = .ok (.iload_n 0, 1) := by decide +kernel
theorem d2_50 : decode method_2_code 50 = .ok (.sipush 215, 3) := by decide +kernel
theorem d2_53 : decode method_2_code 53 = .ok (.if_icmp .eq 129, 3) := by decide +kernel
theorem d2_56 : decode method_2_code 56 = .ok (.iload_n 0, 1) := by decide +kernel
theorem d2_57 : decode method_2_code 57 = .ok (.sipush 247, 3) := by decide +kernel
theorem d2_60 : decode method_2_code 60 = .ok (.if_icmp .eq 122, 3) := by decide +kernel
theorem d2_63 : decode method_2_code 63 = .ok (.iload_n 0, 1) := by decide +kernel
theorem d2_64 : decode method_2_code 64 = .ok (.sipush 768, 3) := by decide +kernel
theorem d2_67 : decode method_2_code 67 = .ok (.if_icmp .lt 10, 3) := by decide +kernel
theorem d2_70 : decode method_2_code 70 = .ok (.iload_n 0, 1) := by decide +kernel
theorem d2_71 : decode method_2_code 71 = .ok (.sipush 879, 3) := by decide +kernel
theorem d2_74 : decode method_2_code 74 = .ok (.if_icmp .le 108, 3) := by decide +kernel
theorem d2_77 : decode method_2_code 77 = .ok (.iload_n 0, 1) := by decide +kernel
theorem d2_78 : decode method_2_code 78 = .ok (.sipush 894, 3) := by decide +kernel
theorem d2_81 : decode method_2_code 81 = .ok (.if_icmp .eq 101, 3) := by decide +kernel
theorem d2_84 : decode method_2_code 84 = .ok (.iload_n 0, 1) := by decide +kernel
theorem d2_85 : decode method_2_code 85 = .ok (.sipush 8192, 3) := by decide +kernel
theorem d2_88 : decode method_2_code 88 = .ok (.if_icmp .lt 10, 3) := by decide +kernel
theorem d2_91 : decode method_2_code 91 = .ok (.iload_n 0, 1) := by decide +kernel
theorem d2_92 : decode method_2_code 92 = .ok (.sipush 8203, 3) := by decide +kernel
theorem d2_95 : decode method_2_code 95 = .ok (.if_icmp .le 87, 3) := by decide +kernel
theorem d2_98 : decode method_2_code 98 = .ok (.iload_n 0, 1) := by decide +kernel
theorem d2_99 : decode method_2_code 99 = .ok (.sipush 8206, 3) := by decide +kernel
theorem d2_102 : decode method_2_code 102 = .ok (.if_icmp .lt 10, 3) := by decide +kernel
theorem d2_105 : decode method_2_code 105 = .ok (.iload_n 0, 1) := by decide +kernel
theorem d2_106 : decode method_2_code 106 = .ok (.sipush 8303, 3) := by decide +kernel
theorem d2_109 : decode method_2_code 109 = .ok (.if_icmp .le 73, 3) := by decide +kernel
theorem d2_112 : decode method_2_code 112 = .ok (.iload_n 0, 1) := by decide +kernel
theorem d2_113 : decode method_2_code 113 = .ok (.sipush 8592, 3) := by decide +kernel
theorem d2_116 : decode method_2_code 116 = .ok (.if_icmp .lt 10, 3) := by decide +kernel
theorem d2_119 : decode method_2_code 119 = .ok (.iload_n 0, 1) := by decide +kernel
theorem d2_120 : decode method_2_code 120 = .ok (.sipush 11263, 3) := by decide +kernel
theorem d2_123 : decode method_2_code 123 = .ok (.if_icmp .le 59, 3) := by decide +kernel
theorem d2_126 : decode method_2_code 126 = .ok (.iload_n 0, 1) := by decide +kernel
theorem d2_127 : decode method_2_code 127 = .ok (.sipush 12272, 3) := by decide +kernel
theorem d2_130 : decode method_2_code 130 = .ok (.if_icmp .lt 10, 3) := by decide +kernel
theorem d2_133 : decode method_2_code 133 = .ok (.iload_n 0, 1) := by decide +kernel
theorem d2_134 : decode method_2_code 134 = .ok (.sipush 12288, 3) := by decide +kernel
theorem d2_137 : decode method_2_code 137 = .ok (.if_icmp .le 45, 3) := by decide +kernel
theorem d2_140 : decode method_2_code 140 = .ok (.iload_n 0, 1) := by decide +kernel
theorem d2_141 : decode method_2_code 141 = .ok (.ldc 7, 2) := by decide +kernel
theorem d2_143 : decode method_2_code 143 = .ok (.if_icmp .lt 9, 3) := by decide +kernel
theorem d2_146 : decode method_2_code 146 = .ok (.iload_n 0, 1) := by decide +kernel
theorem d2_147 : decode method_2_code 147 = .ok (.ldc 8, 2) := by decide +kernel
theorem d2_149 : decode method_2_code 149 = .ok (.if_icmp .le 33, 3) := by decide +kernel
theorem d2_152 : decode method_2_code 152 = .ok (.iload_n 0, 1) := by decide +kernel
theorem d2_153 : decode method_2_code 153 = .ok (.ldc 9, 2) := by decide +kernel
theorem d2_155 : decode method_2_code 155 = .ok (.if_icmp .lt 9, 3) := by decide +kernel
theorem d2_158 : decode method_2_code 158 = .ok (.iload_n 0, 1) := by decide +kernel
theorem d2_159 : decode method_2_code 159 = .ok (.ldc 10, 2) := by decide +kernel
theorem d2_161 : decode method_2_code 161 = .ok (.if_icmp .le 21, 3) := by decide +kernel
theorem d2_164 : decode method_2_code 164 = .ok (.iload_n 0, 1) := by decide +kernel
theorem d2_165 : decode method_2_code 165 = .ok (.ldc 11, 2) := by decide +kernel
theorem d2_167 : decode method_2_code 167 = .ok (.if_icmp .lt 9, 3) := by decide +kernel
theorem d2_170 : decode method_2_code 170 = .ok (.iload_n 0, 1) := by decide +kernel
theorem d2_171 : decode method_2_code 171 = .ok (.ldc 12, 2) := by decide +kernel
theorem d2_173 : decode method_2_code 173 = .ok (.if_icmp .le 9, 3) := by decide +kernel
theorem d2_176 : decode method_2_code 176 = .ok (.iload_n 0, 1) := by decide +kernel
theorem d2_177 : decode method_2_code 177 = .ok (.ldc 13, 2) := by decide +kernel
theorem d2_179 : decode method_2_code 179 = .ok (.if_icmp .lt 7, 3) := by decide +kernel
theorem d2_182 : decode method_2_code 182 = .ok (.iconst 1, 1) := by decide +kernel
theorem d2_183 : decode method_2_code 183 = .ok (.goto 4, 3) := by decide +kernel
theorem d2_186 : decode method_2_code 186 = .ok (.iconst 0, 1) := by decide +kernel
theorem d2_187 : decode method_2_code 187 = .ok (.ireturn, 1) := by decide +kernel
theorem ef_2 (m : MethodId) (z0 : Int32) : entryFrame m #[.int z0] 1 = mkF m 0 #[.val (.int z0)] [] := by first | (simp [entryFrame, mkF, argsToLocals, Value.category]; done) | rfl
theorem pn_1 : plainName x.cls = true := by first | (simp [plainName, overriddenIn]; done) | decide +kernel
set_option maxRecDepth 65536 in
set_option maxHeartbeats 40000000 in
theorem rm2 (l : Launch) (Z : State) (a0 : Array Value) (hw : ∀ d ∈ tables_1, d.before a0 Z = true) (ws : List Jvm.Cond) (a : Int32) (h0 : Heap) (n0 : Nat) (Z0 : n0 ≤ h0.size) :
    Ctr l Z method_2 method_2_code 1 (some .boolean) RM_rm2 ws #[.int a] h0 (PQ (.int (b2i (decide (¬ ((58 ≤ a.toInt ∧ a.toInt ≤ 58) ∨ (65 ≤ a.toInt ∧ a.toInt ≤ 90) ∨ (95 ≤ a.toInt ∧ a.toInt ≤ 95) ∨ (97 ≤ a.toInt ∧ a.toInt ≤ 122) ∨ (192 ≤ a.toInt ∧ a.toInt ≤ 214) ∨ (216 ≤ a.toInt ∧ a.toInt ≤ 246) ∨ (248 ≤ a.toInt ∧ a.toInt ≤ 767) ∨ (880 ≤ a.toInt ∧ a.toInt ≤ 893) ∨ (895 ≤ a.toInt ∧ a.toInt ≤ 8191) ∨ (8204 ≤ a.toInt ∧ a.toInt ≤ 8205) ∨ (8304 ≤ a.toInt ∧ a.toInt ≤ 8591) ∨ (11264 ≤ a.toInt ∧ a.toInt ≤ 12271) ∨ (12289 ≤ a.toInt ∧ a.toInt ≤ 55295) ∨ (63744 ≤ a.toInt ∧ a.toInt ≤ 64975) ∨ (65008 ≤ a.toInt ∧ a.toInt ≤ 65533) ∨ (65536 ≤ a.toInt ∧ a.toInt ≤ 983039)))))) h0) := by
  refine Ctr.of (plainFor_of_name pn_1) ?_
  intro p e s m below meth c s₁ hx hby hml hrt hlk hnm hown hZ X0 e0
  have N0 := Fr.nil n0
  refine Go.cast (ef_2 m a) ?_
  have LP176 : ∀  (T : State) (X : Stand p l e RM_rm2 s m #[.int a] below meth c T [] 0 0) (eT : T.heap = h0) (hk : 58 ≤ a.toInt ∧ (a.toInt < 59 ∨ 64 < a.toInt) ∧ (a.toInt < 91 ∨ 94 < a.toInt) ∧ a.toInt ≠ 96 ∧ (a.toInt < 123 ∨ 191 < a.toInt) ∧ a.toInt ≠ 215 ∧ a.toInt ≠ 247 ∧ (a.toInt < 768 ∨ 879 < a.toInt) ∧ a.toInt ≠ 894 ∧ (a.toInt < 8192 ∨ 8203 < a.toInt) ∧ (a.toInt < 8206 ∨ 8303 < a.toInt) ∧ (a.toInt < 8592 ∨ 11263 < a.toInt) ∧ (a.toInt < 12272 ∨ 12288 < a.toInt) ∧ (a.toInt < 55296 ∨ 63743 < a.toInt) ∧ (a.toInt < 64976 ∨ 65007 < a.toInt) ∧ (a.toInt < 65534 ∨ 65535 < a.toInt)), Go p e below (Fin0 s RM_rm2 (PQ (.int (b2i (decide (¬ ((58 ≤ a.toInt ∧ a.toInt ≤ 58) ∨ (65 ≤ a.toInt ∧ a.toInt ≤ 90) ∨ (95 ≤ a.toInt ∧ a.toInt ≤ 95) ∨ (97 ≤ a.toInt ∧ a.toInt ≤ 122) ∨ (192 ≤ a.toInt ∧ a.toInt ≤ 214) ∨ (216 ≤ a.toInt ∧ a.toInt ≤ 246) ∨ (248 ≤ a.toInt ∧ a.toInt ≤ 767) ∨ (880 ≤ a.toInt ∧ a.toInt ≤ 893) ∨ (895 ≤ a.toInt ∧ a.toInt ≤ 8191) ∨ (8204 ≤ a.toInt ∧ a.toInt ≤ 8205) ∨ (8304 ≤ a.toInt ∧ a.toInt ≤ 8591) ∨ (11264 ≤ a.toInt ∧ a.toInt ≤ 12271) ∨ (12289 ≤ a.toInt ∧ a.toInt ≤ 55295) ∨ (63744 ≤ a.toInt ∧ a.toInt ≤ 64975) ∨ (65008 ≤ a.toInt ∧ a.toInt ≤ 65533) ∨ (65536 ≤ a.toInt ∧ a.toInt ≤ 983039)))))) h0)) (T.setTop (mkF m 176 #[.val (.int a)] [])) := by
    intro T X eT hk
    refine g_iloadN (q := 177) X.here hx (hb hby d2_176) rfl rfl ?_
    refine g_ldcI (q := 179) X hx hZ hown (hw _ (List.mem_of_getElem? (i := 24) rfl)) (hb hby d2_177) rfl ?_
    refine g_sel_icmp_lt (q := 187) X.here hx (hb hby d2_179) (by decide) (by decide) rfl (hb hby d2_186) (hb hby d2_182) (hb hby d2_183) rfl (by decide) (by decide) rfl ?_
    exact g_zreturn (b := decide ((983040 : Int32).toInt ≤ a.toInt)) X hx hlk hrt (hb hby d2_187) (by decide) (by decide) ⟨eqD (by (try simp only [Int32.reduceToInt, Int64.reduceToInt] at hk); have f1 := rng32 a; (try simp only [Int32.reduceToInt, Int64.reduceToInt] at f1); (try simp only [Int32.reduceToInt, Int64.reduceToInt, and_true, true_and, or_true, true_or]); (first | done | omega)), eT, rfl⟩
  have LP164 : ∀  (T : State) (X : Stand p l e RM_rm2 s m #[.int a] below meth c T [] 0 0) (eT : T.heap = h0) (hk : 58 ≤ a.toInt ∧ (a.toInt < 59 ∨ 64 < a.toInt) ∧ (a.toInt < 91 ∨ 94 < a.toInt) ∧ a.toInt ≠ 96 ∧ (a.toInt < 123 ∨ 191 < a.toInt) ∧ a.toInt ≠ 215 ∧ a.toInt ≠ 247 ∧ (a.toInt < 768 ∨ 879 < a.toInt) ∧ a.toInt ≠ 894 ∧ (a.toInt < 8192 ∨ 8203 < a.toInt) ∧ (a.toInt < 8206 ∨ 8303 < a.toInt) ∧ (a.toInt < 8592 ∨ 11263 < a.toInt) ∧ (a.toInt < 12272 ∨ 12288 < a.toInt) ∧ (a.toInt < 55296 ∨ 63743 < a.toInt) ∧ (a.toInt < 64976 ∨ 65007 < a.toInt)), Go p e below (Fin0 s RM_rm2 (PQ (.int (b2i (decide (¬ ((58 ≤ a.toInt ∧ a.toInt ≤ 58) ∨ (65 ≤ a.toInt ∧ a.toInt ≤ 90) ∨ (95 ≤ a.toInt ∧ a.toInt ≤ 95) ∨ (97 ≤ a.toInt ∧ a.toInt ≤ 122) ∨ (192 ≤ a.toInt ∧ a.toInt ≤ 214) ∨ (216 ≤ a.toInt ∧ a.toInt ≤ 246) ∨ (248 ≤ a.toInt ∧ a.toInt ≤ 767) ∨ (880 ≤ a.toInt ∧ a.toInt ≤ 893) ∨ (895 ≤ a.toInt ∧ a.toInt ≤ 8191) ∨ (8204 ≤ a.toInt ∧ a.toInt ≤ 8205) ∨ (8304 ≤ a.toInt ∧ a.toInt ≤ 8591) ∨ (11264 ≤ a.toInt ∧ a.toInt ≤ 12271) ∨ (12289 ≤ a.toInt ∧ a.toInt ≤ 55295) ∨ (63744 ≤ a.toInt ∧ a.toInt ≤ 64975) ∨ (65008 ≤ a.toInt ∧ a.toInt ≤ 65533) ∨ (65536 ≤ a.toInt ∧ a.toInt ≤ 983039)))))) h0)) (T.setTop (mkF m 164 #[.val (.int a)] [])) := by
    intro T X eT hk
    refine g_iloadN (q := 165) X.here hx (hb hby d2_164) rfl rfl ?_
    refine g_ldcI (q := 167) X hx hZ hown (hw _ (List.mem_of_getElem? (i := 23) rfl)) (hb hby d2_165) rfl ?_
    refine g_icmp_lt (q := 176) (q0 := 170) X.here hx (hb hby d2_167) (by decide) (by decide) rfl ?_ ?_
    · intro c1
      exact LP176  _ X eT (by (try simp only [Int32.reduceToInt, Int64.reduceToInt] at hk); (try simp only [Int32.reduceToInt, Int64.reduceToInt] at c1); have f1 := rng32 a; (try simp only [Int32.reduceToInt, Int64.reduceToInt] at f1); (try simp only [Int32.reduceToInt, Int64.reduceToInt, and_true, true_and, or_true, true_or]); (first | done | omega))
    · intro c1
      refine g_iloadN (q := 171) X.here hx (hb hby d2_170) rfl rfl ?_
      refine g_ldcI (q := 173) X hx hZ hown (hw _ (List.mem_of_getElem? (i := 31) rfl)) (hb hby d2_171) rfl ?_
      refine g_icmp_le (q := 182) (q0 := 176) X.here hx (hb hby d2_173) (by decide) (by decide) rfl ?_ ?_
      · intro c2
        refine g_iconst (q := 183) (v := (1 : Int32)) X.here hx (hb hby d2_182) rfl rfl ?_
        refine g_goto (q := 187) X.here hx (hb hby d2_183) (by decide) (by decide) ?_
        exact g_zreturn (b := true) X hx hlk hrt (hb hby d2_187) (by decide) (by decide) ⟨eqT (by (try simp only [Int32.reduceToInt, Int64.reduceToInt] at hk); (try simp only [Int32.reduceToInt, Int64.reduceToInt] at c1); (try simp only [Int32.reduceToInt, Int64.reduceToInt] at c2); have f1 := rng32 a; (try simp only [Int32.reduceToInt, Int64.reduceToInt] at f1); (try simp only [Int32.reduceToInt, Int64.reduceToInt, and_true, true_and, or_true, true_or]); (first | done | omega)), eT, rfl⟩
      · intro c2
        exact LP176  _ X eT (by (try simp only [Int32.reduceToInt, Int64.reduceToInt] at hk); (try simp only [Int32.reduceToInt, Int64.reduceToInt] at c1); (try simp only [Int32.reduceToInt, Int64.reduceToInt] at c2); have f1 := rng32 a; (try simp only [Int32.reduceToInt, Int64.reduceToInt] at f1); (try simp only [Int32.reduceToInt, Int64.reduceToInt, and_true, true_and, or_true, true_or]); (first | done | omega))
  have LP152 : ∀  (T : State) (X : Stand p l e RM_rm2 s m #[.int a] below meth c T [] 0 0) (eT : T.heap = h0) (hk : 58 ≤ a.toInt ∧ (a.toInt < 59 ∨ 64 < a.toInt) ∧ (a.toInt < 91 ∨ 94 < a.toInt) ∧ a.toInt ≠ 96 ∧ (a.toInt < 123 ∨ 191 < a.toInt) ∧ a.toInt ≠ 215 ∧ a.toInt ≠ 247 ∧ (a.toInt < 768 ∨ 879 < a.toInt) ∧ a.toInt ≠ 894 ∧ (a.toInt < 8192 ∨ 8203 < a.toInt) ∧ (a.toInt < 8206 ∨ 8303 < a.toInt) ∧ (a.toInt < 8592 ∨ 11263 < a.toInt) ∧ (a.toInt < 12272 ∨ 12288 < a.toInt) ∧ (a.toInt < 55296 ∨ 63743 < a.toInt)), Go p e below (Fin0 s RM_rm2 (PQ (.int (b2i (decide (¬ ((58 ≤ a.toInt ∧ a.toInt ≤ 58) ∨ (65 ≤ a.toInt ∧ a.toInt ≤ 90) ∨ (95 ≤ a.toInt ∧ a.toInt ≤ 95) ∨ (97 ≤ a.toInt ∧ a.toInt ≤ 122) ∨ (192 ≤ a.toInt ∧ a.toInt ≤ 214) ∨ (216 ≤ a.toInt ∧ a.toInt ≤ 246) ∨ (248 ≤ a.toInt ∧ a.toInt ≤ 767) ∨ (880 ≤ a.toInt ∧ a.toInt ≤ 893) ∨ (895 ≤ a.toInt ∧ a.toInt ≤ 8191) ∨ (8204 ≤ a.toInt ∧ a.toInt ≤ 8205) ∨ (8304 ≤ a.toInt ∧ a.toInt ≤ 8591) ∨ (11264 ≤ a.toInt ∧ a.toInt ≤ 12271) ∨ (12289 ≤ a.toInt ∧ a.toInt ≤ 55295) ∨ (63744 ≤ a.toInt ∧ a.toInt ≤ 64975) ∨ (65008 ≤ a.toInt ∧ a.toInt ≤ 65533) ∨ (65536 ≤ a.toInt ∧ a.toInt ≤ 983039)))))) h0)) (T.setTop (mkF m 152 #[.val (.int a)] [])) := by
    intro T X eT hk
    refine g_iloadN (q := 153) X.here hx (hb hby d2_152) rfl rfl ?_
    refine g_ldcI (q := 155) X hx hZ hown (hw _ (List.mem_of_getElem? (i := 22) rfl)) (hb hby d2_153) rfl ?_
    refine g_icmp_lt (q := 164) (q0 := 158) X.here hx (hb hby d2_155) (by decide) (by decide) rfl ?_ ?_
    · intro c3
      exact LP164  _ X eT (by (try simp only [Int32.reduceToInt, Int64.reduceToInt] at hk); (try simp only [Int32.reduceToInt, Int64.reduceToInt] at c3); have f1 := rng32 a; (try simp only [Int32.reduceToInt, Int64.reduceToInt] at f1); (try simp only [Int32.reduceToInt, Int64.reduceToInt, and_true, true_and, or_true, true_or]); (first | done | omega))
    · intro c3
      refine g_iloadN (q := 159) X.here hx (hb hby d2_158) rfl rfl ?_
      refine g_ldcI (q := 161) X hx hZ hown (hw _ (List.mem_of_getElem? (i := 30) rfl)) (hb hby d2_159) rfl ?_
      refine g_icmp_le (q := 182) (q0 := 164) X.here hx (hb hby d2_161) (by decide) (by decide) rfl ?_ ?_
      · intro c4
        refine g_iconst (q := 183) (v := (1 : Int32)) X.here hx (hb hby d2_182) rfl rfl ?_
        refine g_goto (q := 187) X.here hx (hb hby d2_183) (by decide) (by decide) ?_
        exact g_zreturn (b := true) X hx hlk hrt (hb hby d2_187) (by decide) (by decide) ⟨eqT (by (try simp only [Int32.reduceToInt, Int64.reduceToInt] at hk); (try simp only [Int32.reduceToInt, Int64.reduceToInt] at c3); (try simp only [Int32.reduceToInt, Int64.reduceToInt] at c4); have f1 := rng32 a; (try simp only [Int32.reduceToInt, Int64.reduceToInt] at f1); (try simp only [Int32.reduceToInt, Int64.reduceToInt, and_true, true_and, or_true, true_or]); (first | done | omega)), eT, rfl⟩
      · intro c4
        exact LP164  _ X eT (by (try simp only [Int32.reduceToInt, Int64.reduceToInt] at hk); (try simp only [Int32.reduceToInt, Int64.reduceToInt] at c3); (try simp only [Int32.reduceToInt, Int64.reduceToInt] at c4); have f1 := rng32 a; (try simp only [Int32.reduceToInt, Int64.reduceToInt] at f1); (try simp only [Int32.reduceToInt, Int64.reduceToInt, and_true, true_and, or_true, true_or]); (first | done | omega))
  have LP140 : ∀  (T : State) (X : Stand p l e RM_rm2 s m #[.int a] below meth c T [] 0 0) (eT : T.heap = h0) (hk : 58 ≤ a.toInt ∧ (a.toInt < 59 ∨ 64 < a.toInt) ∧ (a.toInt < 91 ∨ 94 < a.toInt) ∧ a.toInt ≠ 96 ∧ (a.toInt < 123 ∨ 191 < a.toInt) ∧ a.toInt ≠ 215 ∧ a.toInt ≠ 247 ∧ (a.toInt < 768 ∨ 879 < a.toInt) ∧ a.toInt ≠ 894 ∧ (a.toInt < 8192 ∨ 8203 < a.toInt) ∧ (a.toInt < 8206 ∨ 8303 < a.toInt) ∧ (a.toInt < 8592 ∨ 11263 < a.toInt) ∧ (a.toInt < 12272 ∨ 12288 < a.toInt)), Go p e below (Fin0 s RM_rm2 (PQ (.int (b2i (decide (¬ ((58 ≤ a.toInt ∧ a.toInt ≤ 58) ∨ (65 ≤ a.toInt ∧ a.toInt ≤ 90) ∨ (95 ≤ a.toInt ∧ a.toInt ≤ 95) ∨ (97 ≤ a.toInt ∧ a.toInt ≤ 122) ∨ (192 ≤ a.toInt ∧ a.toInt ≤ 214) ∨ (216 ≤ a.toInt ∧ a.toInt ≤ 246) ∨ (248 ≤ a.toInt ∧ a.toInt ≤ 767) ∨ (880 ≤ a.toInt ∧ a.toInt ≤ 893) ∨ (895 ≤ a.toInt ∧ a.toInt ≤ 8191) ∨ (8204 ≤ a.toInt ∧ a.toInt ≤ 8205) ∨ (8304 ≤ a.toInt ∧ a.toInt ≤ 8591) ∨ (11264 ≤ a.toInt ∧ a.toInt ≤ 12271) ∨ (12289 ≤ a.toInt ∧ a.toInt ≤ 55295) ∨ (63744 ≤ a.toInt ∧ a.toInt ≤ 64975) ∨ (65008 ≤ a.toInt ∧ a.toInt ≤ 65533) ∨ (65536 ≤ a.toInt ∧ a.toInt ≤ 983039)))))) h0)) (T.setTop (mkF m 140 #[.val (.int a)] [])) := by
    intro T X eT hk
    refine g_iloadN (q := 141) X.here hx (hb hby d2_140) rfl rfl ?_
    refine g_ldcI (q := 143) X hx hZ hown (hw _ (List.mem_of_getElem? (i := 21) rfl)) (hb hby d2_141) rfl ?_
    refine g_icmp_lt (q := 152) (q0 := 146) X.here hx (hb hby d2_143) (by decide) (by decide) rfl ?_ ?_
    · intro c5
      exact LP152  _ X eT (by (try simp only [Int32.reduceToInt, Int64.reduceToInt] at hk); (try simp only [Int32.reduceToInt, Int64.reduceToInt] at c5); have f1 := rng32 a; (try simp only [Int32.reduceToInt, Int64.reduceToInt] at f1); (try simp only [Int32.reduceToInt, Int64.reduceToInt, and_true, true_and, or_true, true_or]); (first | done | omega))
    · intro c5
      refine g_iloadN (q := 147) X.here hx (hb hby d2_146) rfl rfl ?_
      refine g_ldcI (q := 149) X hx hZ hown (hw _ (List.mem_of_getElem? (i := 29) rfl)) (hb hby d2_147) rfl ?_
      refine g_icmp_le (q := 182) (q0 := 152) X.here hx (hb hby d2_149) (by decide) (by decide) rfl ?_ ?_
      · intro c6
        refine g_iconst (q := 183) (v := (1 : Int32)) X.here hx (hb hby d2_182) rfl rfl ?_
        refine g_goto (q := 187) X.here hx (hb hby d2_183) (by decide) (by decide) ?_
        exact g_zreturn (b := true) X hx hlk hrt (hb hby d2_187) (by decide) (by decide) ⟨eqT (by (try simp only [Int32.reduceToInt, Int64.reduceToInt] at hk); (try simp only [Int32.reduceToInt, Int64.reduceToInt] at c5); (try simp only [Int32.reduceToInt, Int64.reduceToInt] at c6); have f1 := rng32 a; (try simp only [Int32.reduceToInt, Int64.reduceToInt] at f1); (try simp only [Int32.reduceToInt, Int64.reduceToInt, and_true, true_and, or_true, true_or]); (first | done | omega)), eT, rfl⟩
      · intro c6
        exact LP152  _ X eT (by (try simp only [Int32.reduceToInt, Int64.reduceToInt] at hk); (try simp only [Int32.reduceToInt, Int64.reduceToInt] at c5); (try simp only [Int32.reduceToInt, Int64.reduceToInt] at c6); have f1 := rng32 a; (try simp only [Int32.reduceToInt, Int64.reduceToInt] at f1); (try simp only [Int32.reduceToInt, Int64.reduceToInt, and_true, true_and, or_true, true_or]); (first | done | omega))
  have LP126 : ∀  (T : State) (X : Stand p l e RM_rm2 s m #[.int a] below meth c T [] 0 0) (eT : T.heap = h0) (hk : 58 ≤ a.toInt ∧ (a.toInt < 59 ∨ 64 < a.toInt) ∧ (a.toInt < 91 ∨ 94 < a.toInt) ∧ a.toInt ≠ 96 ∧ (a.toInt < 123 ∨ 191 < a.toInt) ∧ a.toInt ≠ 215 ∧ a.toInt ≠ 247 ∧ (a.toInt < 768 ∨ 879 < a.toInt) ∧ a.toInt ≠ 894 ∧ (a.toInt < 8192 ∨ 8203 < a.toInt) ∧ (a.toInt < 8206 ∨ 8303 < a.toInt) ∧ (a.toInt < 8592 ∨ 11263 < a.toInt)), Go p e below (Fin0 s RM_rm2 (PQ (.int (b2i (decide (¬ ((58 ≤ a.toInt ∧ a.toInt ≤ 58) ∨ (65 ≤ a.toInt ∧ a.toInt ≤ 90) ∨ (95 ≤ a.toInt ∧ a.toInt ≤ 95) ∨ (97 ≤ a.toInt ∧ a.toInt ≤ 122) ∨ (192 ≤ a.toInt ∧ a.toInt ≤ 214) ∨ (216 ≤ a.toInt ∧ a.toInt ≤ 246) ∨ (248 ≤ a.toInt ∧ a.toInt ≤ 767) ∨ (880 ≤ a.toInt ∧ a.toInt ≤ 893) ∨ (895 ≤ a.toInt ∧ a.toInt ≤ 8191) ∨ (8204 ≤ a.toInt ∧ a.toInt ≤ 8205) ∨ (8304 ≤ a.toInt ∧ a.toInt ≤ 8591) ∨ (11264 ≤ a.toInt ∧ a.toInt ≤ 12271) ∨ (12289 ≤ a.toInt ∧ a.toInt ≤ 55295) ∨ (63744 ≤ a.toInt ∧ a.toInt ≤ 64975) ∨ (65008 ≤ a.toInt ∧ a.toInt ≤ 65533) ∨ (65536 ≤ a.toInt ∧ a.toInt ≤ 983039)))))) h0)) (T.setTop (mkF m 126 #[.val (.int a)] [])) := by
    intro T X eT hk
    refine g_iloadN (q := 127) X.here hx (hb hby d2_126) rfl rfl ?_
    refine g_sipush (q := 130) (v := (12272 : Int32)) X.here hx (hb hby d2_127) rfl rfl ?_
    refine g_icmp_lt (q := 140) (q0 := 133) X.here hx (hb hby d2_130) (by decide) (by decide) rfl ?_ ?_
    · intro c7
      exact LP140  _ X eT (by (try simp only [Int32.reduceToInt, Int64.reduceToInt] at hk); (try simp only [Int32.reduceToInt, Int64.reduceToInt] at c7); have f1 := rng32 a; (try simp only [Int32.reduceToInt, Int64.reduceToInt] at f1); (try simp only [Int32.reduceToInt, Int64.reduceToInt, and_true, true_and, or_true, true_or]); (first | done | omega))
    · intro c7
      refine g_iloadN (q := 134) X.here hx (hb hby d2_133) rfl rfl ?_
      refine g_sipush (q := 137) (v := (12288 : Int32)) X.here hx (hb hby d2_134) rfl rfl ?_
      refine g_icmp_le (q := 182) (q0 := 140) X.here hx (hb hby d2_137) (by decide) (by decide) rfl ?_ ?_
      · intro c8
        refine g_iconst (q := 183) (v := (1 : Int32)) X.here hx (hb hby d2_182) rfl rfl ?_
        refine g_goto (q := 187) X.here hx (hb hby d2_183) (by decide) (by decide) ?_
        exact g_zreturn (b := true) X hx hlk hrt (hb hby d2_187) (by decide) (by decide) ⟨eqT (by (try simp only [Int32.reduceToInt, Int64.reduceToInt] at hk); (try simp only [Int32.reduceToInt, Int64.reduceToInt] at c7); (try simp only [Int32.reduceToInt, Int64.reduceToInt] at c8); have f1 := rng32 a; (try simp only [Int32.reduceToInt, Int64.reduceToInt] at f1); (try simp only [Int32.reduceToInt, Int64.reduceToInt, and_true, true_and, or_true, true_or]); (first | done | omega)), eT, rfl⟩
      · intro c8
        exact LP140  _ X eT (by (try simp only [Int32.reduceToInt, Int64.reduceToInt] at hk); (try simp only [Int32.reduceToInt, Int64.reduceToInt] at c7); (try simp only [Int32.reduceToInt, Int64.reduceToInt] at c8); have f1 := rng32 a; (try simp only [Int32.reduceToInt, Int64.reduceToInt] at f1); (try simp only [Int32.reduceToInt, Int64.reduceToInt, and_true, true_and, or_true, true_or]); (first | done | omega))
  have LP112 : ∀  (T : State) (X : Stand p l e RM_rm2 s m #[.int a] below meth c T [] 0 0) (eT : T.heap = h0) (hk : 58 ≤ a.toInt ∧ (a.toInt < 59 ∨ 64 < a.toInt) ∧ (a.toInt < 91 ∨ 94 < a.toInt) ∧ a.toInt ≠ 96 ∧ (a.toInt < 123 ∨ 191 < a.toInt) ∧ a.toInt ≠ 215 ∧ a.toInt ≠ 247 ∧ (a.toInt < 768 ∨ 879 < a.toInt) ∧ a.toInt ≠ 894 ∧ (a.toInt < 8192 ∨ 8203 < a.toInt) ∧ (a.toInt < 8206 ∨ 8303 < a.toInt)), Go p e below (Fin0 s RM_rm2 (PQ (.int (b2i (decide (¬ ((58 ≤ a.toInt ∧ a.toInt ≤ 58) ∨ (65 ≤ a.toInt ∧ a.toInt ≤ 90) ∨ (95 ≤ a.toInt ∧ a.toInt ≤ 95) ∨ (97 ≤ a.toInt ∧ a.toInt ≤ 122) ∨ (192 ≤ a.toInt ∧ a.toInt ≤ 214) ∨ (216 ≤ a.toInt ∧ a.toInt ≤ 246) ∨ (248 ≤ a.toInt ∧ a.toInt ≤ 767) ∨ (880 ≤ a.toInt ∧ a.toInt ≤ 893) ∨ (895 ≤ a.toInt ∧ a.toInt ≤ 8191) ∨ (8204 ≤ a.toInt ∧ a.toInt ≤ 8205) ∨ (8304 ≤ a.toInt ∧ a.toInt ≤ 8591) ∨ (11264 ≤ a.toInt ∧ a.toInt ≤ 12271) ∨ (12289 ≤ a.toInt ∧ a.toInt ≤ 55295) ∨ (63744 ≤ a.toInt ∧ a.toInt ≤ 64975) ∨ (65008 ≤ a.toInt ∧ a.toInt ≤ 65533) ∨ (65536 ≤ a.toInt ∧ a.toInt ≤ 983039)))))) h0)) (T.setTop (mkF m 112 #[.val (.int a)] [])) := by
    intro T X eT hk
    refine g_iloadN (q := 113) X.here hx (hb hby d2_112) rfl rfl ?_
    refine g_sipush (q := 116) (v := (8592 : Int32)) X.here hx (hb hby d2_113) rfl rfl ?_
    refine g_icmp_lt (q := 126) (q0 := 119) X.here hx (hb hby d2_116) (by decide) (by decide) rfl ?_ ?_
    · intro c9
      exact LP126  _ X eT (by (try simp only [Int32.reduceToInt, Int64.reduceToInt] at hk); (try simp only [Int32.reduceToInt, Int64.reduceToInt] at c9); have f1 := rng32 a; (try simp only [Int32.reduceToInt, Int64.reduceToInt] at f1); (try simp only [Int32.reduceToInt, Int64.reduceToInt, and_true, true_and, or_true, true_or]); (first | done | omega))
    · intro c9
      refine g_iloadN (q := 120) X.here hx (hb hby d2_119) rfl rfl ?_
      refine g_sipush (q := 123) (v := (11263 : Int32)) X.here hx (hb hby d2_120) rfl rfl ?_
      refine g_icmp_le (q := 182) (q0 := 126) X.here hx (hb hby d2_123) (by decide) (by decide) rfl ?_ ?_
      · intro c10
        refine g_iconst (q := 183) (v := (1 : Int32)) X.here hx (hb hby d2_182) rfl rfl ?_
        refine g_goto (q := 187) X.here hx (hb hby d2_183) (by decide) (by decide) ?_
        exact g_zreturn (b := true) X hx hlk hrt (hb hby d2_187) (by decide) (by decide) ⟨eqT (by (try simp only [Int32.reduceToInt, Int64.reduceToInt] at hk); (try simp only [Int32.reduceToInt, Int64.reduceToInt] at c9); (try simp only [Int32.reduceToInt, Int64.reduceToInt] at c10); have f1 := rng32 a; (try simp only [Int32.reduceToInt, Int64.reduceToInt] at f1); (try simp only [Int32.reduceToInt, Int64.reduceToInt, and_true, true_and, or_true, true_or]); (first | done | omega)), eT, rfl⟩
      · intro c10
        exact LP126  _ X eT (by (try simp only [Int32.reduceToInt, Int64.reduceToInt] at hk); (try simp only [Int32.reduceToInt, Int64.reduceToInt] at c9); (try simp only [Int32.reduceToInt, Int64.reduceToInt] at c10); have f1 := rng32 a; (try simp only [Int32.reduceToInt, Int64.reduceToInt] at f1); (try simp only [Int32.reduceToInt, Int64.reduceToInt, and_true, true_and, or_true, true_or]); (first | done | omega))
  have LP98 : ∀  (T : State) (X : Stand p l e RM_rm2 s m #[.int a] below meth c T [] 0 0) (eT : T.heap = h0) (hk : 58 ≤ a.toInt ∧ (a.toInt < 59 ∨ 64 < a.toInt) ∧ (a.toInt < 91 ∨ 94 < a.toInt) ∧ a.toInt ≠ 96 ∧ (a.toInt < 123 ∨ 191 < a.toInt) ∧ a.toInt ≠ 215 ∧ a.toInt ≠ 247 ∧ (a.toInt < 768 ∨ 879 < a.toInt) ∧ a.toInt ≠ 894 ∧ (a.toInt < 8192 ∨ 8203 < a.toInt)), Go p e below (Fin0 s RM_rm2 (PQ (.int (b2i (decide (¬ ((58 ≤ a.toInt ∧ a.toInt ≤ 58) ∨ (65 ≤ a.toInt ∧ a.toInt ≤ 90) ∨ (95 ≤ a.toInt ∧ a.toInt ≤ 95) ∨ (97 ≤ a.toInt ∧ a.toInt ≤ 122) ∨ (192 ≤ a.toInt ∧ a.toInt ≤ 214) ∨ (216 ≤ a.toInt ∧ a.toInt ≤ 246) ∨ (248 ≤ a.toInt ∧ a.toInt ≤ 767) ∨ (880 ≤ a.toInt ∧ a.toInt ≤ 893) ∨ (895 ≤ a.toInt ∧ a.toInt ≤ 8191) ∨ (8204 ≤ a.toInt ∧ a.toInt ≤ 8205) ∨ (8304 ≤ a.toInt ∧ a.toInt ≤ 8591) ∨ (11264 ≤ a.toInt ∧ a.toInt ≤ 12271) ∨ (12289 ≤ a.toInt ∧ a.toInt ≤ 55295) ∨ (63744 ≤ a.toInt ∧ a.toInt ≤ 64975) ∨ (65008 ≤ a.toInt ∧ a.toInt ≤ 65533) ∨ (65536 ≤ a.toInt ∧ a.toInt ≤ 983039)))))) h0)) (T.setTop (mkF m 98 #[.val (.int a)] [])) := by
    intro T X eT hk
    refine g_iloadN (q := 99) X.here hx (hb hby d2_98) rfl rfl ?_
    refine g_sipush (q := 102) (v := (8206 : Int32)) X.here hx (hb hby d2_99) rfl rfl ?_
    refine g_icmp_lt (q := 112) (q0 := 105) X.here hx (hb hby d2_102) (by decide) (by decide) rfl ?_ ?_
    · intro c11
      exact LP112  _ X eT (by (try simp only [Int32.reduceToInt, Int64.reduceToInt] at hk); (try simp only [Int32.reduceToInt, Int64.reduceToInt] at c11); have f1 := rng32 a; (try simp only [Int32.reduceToInt, Int64.reduceToInt] at f1); (try simp only [Int32.reduceToInt, Int64.reduceToInt, and_true, true_and, or_true, true_or]); (first | done | omega))
    · intro c11
      refine g_iloadN (q := 106) X.here hx (hb hby d2_105) rfl rfl ?_
      refine g_sipush (q := 109) (v := (8303 : Int32)) X.here hx (hb hby d2_106) rfl rfl ?_
      refine g_icmp_le (q := 182) (q0 := 112) X.here hx (hb hby d2_109) (by decide) (by decide) rfl ?_ ?_
      · intro c12
        refine g_iconst (q := 183) (v := (1 : Int32)) X.here hx (hb hby d2_182) rfl rfl ?_
        refine g_goto (q := 187) X.here hx (hb hby d2_183) (by decide) (by decide) ?_
        exact g_zreturn (b := true) X hx hlk hrt (hb hby d2_187) (by decide) (by decide) ⟨eqT (by (try simp only [Int32.reduceToInt, Int64.reduceToInt] at hk); (try simp only [Int32.reduceToInt, Int64.reduceToInt] at c11); (try simp only [Int32.reduceToInt, Int64.reduceToInt] at c12); have f1 := rng32 a; (try simp only [Int32.reduceToInt, Int64.reduceToInt] at f1); (try simp only [Int32.reduceToInt, Int64.reduceToInt, and_true, true_and, or_true, true_or]); (first | done | omega)), eT, rfl⟩
      · intro c12
        exact LP112  _ X eT (by (try simp only [Int32.reduceToInt, Int64.reduceToInt] at hk); (try simp only [Int32.reduceToInt, Int64.reduceToInt] at c11); (try simp only [Int32.reduceToInt, Int64.reduceToInt] at c12); have f1 := rng32 a; (try simp only [Int32.reduceToInt, Int64.reduceToInt] at f1); (try simp only [Int32.reduceToInt, Int64.reduceToInt, and_true, true_and, or_true, true_or]); (first | done | omega))
  have LP77 : ∀  (T : State) (X : Stand p l e RM_rm2 s m #[.int a] below meth c T [] 0 0) (eT : T.heap = h0) (hk : 58 ≤ a.toInt ∧ (a.toInt < 59 ∨ 64 < a.toInt) ∧ (a.toInt < 91 ∨ 94 < a.toInt) ∧ a.toInt ≠ 96 ∧ (a.toInt < 123 ∨ 191 < a.toInt) ∧ a.toInt ≠ 215 ∧ a.toInt ≠ 247 ∧ (a.toInt < 768 ∨ 879 < a.toInt)), Go p e below (Fin0 s RM_rm2 (PQ (.int (b2i (decide (¬ ((58 ≤ a.toInt ∧ a.toInt ≤ 58) ∨ (65 ≤ a.toInt ∧ a.toInt ≤ 90) ∨ (95 ≤ a.toInt ∧ a.toInt ≤ 95) ∨ (97 ≤ a.toInt ∧ a.toInt ≤ 122) ∨ (192 ≤ a.toInt ∧ a.toInt ≤ 214) ∨ (216 ≤ a.toInt ∧ a.toInt ≤ 246) ∨ (248 ≤ a.toInt ∧ a.toInt ≤ 767) ∨ (880 ≤ a.toInt ∧ a.toInt ≤ 893) ∨ (895 ≤ a.toInt ∧ a.toInt ≤ 8191) ∨ (8204 ≤ a.toInt ∧ a.toInt ≤ 8205) ∨ (8304 ≤ a.toInt ∧ a.toInt ≤ 8591) ∨ (11264 ≤ a.toInt ∧ a.toInt ≤ 12271) ∨ (12289 ≤ a.toInt ∧ a.toInt ≤ 55295) ∨ (63744 ≤ a.toInt ∧ a.toInt ≤ 64975) ∨ (65008 ≤ a.toInt ∧ a.toInt ≤ 65533) ∨ (65536 ≤ a.toInt ∧ a.toInt ≤ 983039)))))) h0)) (T.setTop (mkF m 77 #[.val (.int a)] [])) := by
    intro T X eT hk
    refine g_iloadN (q := 78) X.here hx (hb hby d2_77) rfl rfl ?_
    refine g_sipush (q := 81) (v := (894 : Int32)) X.here hx (hb hby d2_78) rfl rfl ?_
    refine g_icmp_eq (q := 182) (q0 := 84) X.here hx (hb hby d2_81) (by decide) (by decide) rfl ?_ ?_
    · intro c13
      refine g_iconst (q := 183) (v := (1 : Int32)) X.here hx (hb hby d2_182) rfl rfl ?_
      refine g_goto (q := 187) X.here hx (hb hby d2_183) (by decide) (by decide) ?_
      exact g_zreturn (b := true) X hx hlk hrt (hb hby d2_187) (by decide) (by decide) ⟨eqT (by (try simp only [Int32.reduceToInt, Int64.reduceToInt] at hk); (try simp only [Int32.reduceToInt, Int64.reduceToInt] at c13); have f1 := rng32 a; (try simp only [Int32.reduceToInt, Int64.reduceToInt] at f1); (try simp only [Int32.reduceToInt, Int64.reduceToInt, and_true, true_and, or_true, true_or]); (first | done | omega)), eT, rfl⟩
    · intro c13
      refine g_iloadN (q := 85) X.here hx (hb hby d2_84) rfl rfl ?_
      refine g_sipush (q := 88) (v := (8192 : Int32)) X.here hx (hb hby d2_85) rfl rfl ?_
      refine g_icmp_lt (q := 98) (q0 := 91) X.here hx (hb hby d2_88) (by decide) (by decide) rfl ?_ ?_
      · intro c14
        exact LP98  _ X eT (by (try simp only [Int32.reduceToInt, Int64.reduceToInt] at hk); (try simp only [Int32.reduceToInt, Int64.reduceToInt] at c13); (try simp only [Int32.reduceToInt, Int64.reduceToInt] at c14); have f1 := rng32 a; (try simp only [Int32.reduceToInt, Int64.reduceToInt] at f1); (try simp only [Int32.reduceToInt, Int64.reduceToInt, and_true, true_and, or_true, true_or]); (first | done | omega))
      · intro c14
        refine g_iloadN (q := 92) X.here hx (hb hby d2_91) rfl rfl ?_
        refine g_sipush (q := 95) (v := (8203 : Int32)) X.here hx (hb hby d2_92) rfl rfl ?_
        refine g_icmp_le (q := 182) (q0 := 98) X.here hx (hb hby d2_95) (by decide) (by decide) rfl ?_ ?_
        · intro c15
          refine g_iconst (q := 183) (v := (1 : Int32)) X.here hx (hb hby d2_182) rfl rfl ?_
          refine g_goto (q := 187) X.here hx (hb hby d2_183) (by decide) (by decide) ?_
          exact g_zreturn (b := true) X hx hlk hrt (hb hby d2_187) (by decide) (by decide) ⟨eqT (by (try simp only [Int32.reduceToInt, Int64.reduceToInt] at hk); (try simp only [Int32.reduceToInt, Int64.reduceToInt] at c13); (try simp only [Int32.reduceToInt, Int64.reduceToInt] at c14); (try simp only [Int32.reduceToInt, Int64.reduceToInt] at c15); have f1 := rng32 a; (try simp only [Int32.reduceToInt, Int64.reduceToInt] at f1); (try simp only [Int32.reduceToInt, Int64.reduceToInt, and_true, true_and, or_true, true_or]); (first | done | omega)), eT, rfl⟩
        · intro c15
          exact LP98  _ X eT (by (try simp only [Int32.reduceToInt, Int64.reduceToInt] at hk); (try simp only [Int32.reduceToInt, Int64.reduceToInt] at c13); (try simp only [Int32.reduceToInt, Int64.reduceToInt] at c14); (try simp only [Int32.reduceToInt, Int64.reduceToInt] at c15); have f1 := rng32 a; (try simp only [Int32.reduceToInt, Int64.reduceToInt] at f1); (try simp only [Int32.reduceToInt, Int64.reduceToInt, and_true, true_and, or_true, true_or]); (first | done | omega))
  have LP49 : ∀  (T : State) (X : Stand p l e RM_rm2 s m #[.int a] below meth c T [] 0 0) (eT : T.heap = h0) (hk : 58 ≤ a.toInt ∧ (a.toInt < 59 ∨ 64 < a.toInt) ∧ (a.toInt < 91 ∨ 94 < a.toInt) ∧ a.toInt ≠ 96 ∧ (a.toInt < 123 ∨ 191 < a.toInt)), Go p e below (Fin0 s RM_rm2 (PQ (.int (b2i (decide (¬ ((58 ≤ a.toInt ∧ a.toInt ≤ 58) ∨ (65 ≤ a.toInt ∧ a.toInt ≤ 90) ∨ (95 ≤ a.toInt ∧ a.toInt ≤ 95) ∨ (97 ≤ a.toInt ∧ a.toInt ≤ 122) ∨ (192 ≤ a.toInt ∧ a.toInt ≤ 214) ∨ (216 ≤ a.toInt ∧ a.toInt ≤ 246) ∨ (248 ≤ a.toInt ∧ a.toInt ≤ 767) ∨ (880 ≤ a.toInt ∧ a.toInt ≤ 893) ∨ (895 ≤ a.toInt ∧ a.toInt ≤ 8191) ∨ (8204 ≤ a.toInt ∧ a.toInt ≤ 8205) ∨ (8304 ≤ a.toInt ∧ a.toInt ≤ 8591) ∨ (11264 ≤ a.toInt ∧ a.toInt ≤ 12271) ∨ (12289 ≤ a.toInt ∧ a.toInt ≤ 55295) ∨ (63744 ≤ a.toInt ∧ a.toInt ≤ 64975) ∨ (65008 ≤ a.toInt ∧ a.toInt ≤ 65533) ∨ (65536 ≤ a.toInt ∧ a.toInt ≤ 983039)))))) h0)) (T.setTop (mkF m 49 #[.val (.int a)] [])) := by
    intro T X eT hk
    refine g_iloadN (q := 50) X.here hx (hb hby d2_49) rfl rfl ?_
    refine g_sipush (q := 53) (v := (215 : Int32)) X.here hx (hb hby d2_50) rfl rfl ?_
    refine g_icmp_eq (q := 182) (q0 := 56) X.here hx (hb hby d2_53) (by decide) (by decide) rfl ?_ ?_
    · intro c16
      refine g_iconst (q := 183) (v := (1 : Int32)) X.here hx (hb hby d2_182) rfl rfl ?_
      refine g_goto (q := 187) X.here hx (hb hby d2_183) (by decide) (by decide) ?_
      exact g_zreturn (b := true) X hx hlk hrt (hb hby d2_187) (by decide) (by decide) ⟨eqT (by (try simp only [Int32.reduceToInt, Int64.reduceToInt] at hk); (try simp only [Int32.reduceToInt, Int64.reduceToInt] at c16); have f1 := rng32 a; (try simp only [Int32.reduceToInt, Int64.reduceToInt] at f1); (try simp only [Int32.reduceToInt, Int64.reduceToInt, and_true, true_and, or_true, true_or]); (first | done | omega)), eT, rfl⟩
    · intro c16
      refine g_iloadN (q := 57) X.here hx (hb hby d2_56) rfl rfl ?_
      refine g_sipush (q := 60) (v := (247 : Int32)) X.here hx (hb hby d2_57) rfl rfl ?_
      refine g_icmp_eq (q := 182) (q0 := 63) X.here hx (hb hby d2_60) (by decide) (by decide) rfl ?_ ?_
      · intro c17
        refine g_iconst (q := 183) (v := (1 : Int32)) X.here hx (hb hby d2_182) rfl rfl ?_
        refine g_goto (q := 187) X.here hx (hb hby d2_183) (by decide) (by decide) ?_
        exact g_zreturn (b := true) X hx hlk hrt (hb hby d2_187) (by decide) (by decide) ⟨eqT (by (try simp only [Int32.reduceToInt, Int64.reduceToInt] at hk); (try simp only [Int32.reduceToInt, Int64.reduceToInt] at c16); (try simp only [Int32.reduceToInt, Int64.reduceToInt] at c17); have f1 := rng32 a; (try simp only [Int32.reduceToInt, Int64.reduceToInt] at f1); (try simp only [Int32.reduceToInt, Int64.reduceToInt, and_true, true_and, or_true, true_or]); (first | done | omega)), eT, rfl⟩
      · intro c17
        refine g_iloadN (q := 64) X.here hx (hb hby d2_63) rfl rfl ?_
        refine g_sipush (q := 67) (v := (768 : Int32)) X.here hx (hb hby d2_64) rfl rfl ?_
        refine g_icmp_lt (q := 77) (q0 := 70) X.here hx (hb hby d2_67) (by decide) (by decide) rfl ?_ ?_
        · intro c18
          exact LP77  _ X eT (by (try simp only [Int32.reduceToInt, Int64.reduceToInt] at hk); (try simp only [Int32.reduceToInt, Int64.reduceToInt] at c16); (try simp only [Int32.reduceToInt, Int64.reduceToInt] at c17); (try simp only [Int32.reduceToInt, Int64.reduceToInt] at c18); have f1 := rng32 a; (try simp only [Int32.reduceToInt, Int64.reduceToInt] at f1); (try simp only [Int32.reduceToInt, Int64.reduceToInt, and_true, true_and, or_true, true_or]); (first | done | omega))
        · intro c18
          refine g_iloadN (q := 71) X.here hx (hb hby d2_70) rfl rfl ?_
          refine g_sipush (q := 74) (v := (879 : Int32)) X.here hx (hb hby d2_71) rfl rfl ?_
          refine g_icmp_le (q := 182) (q0 := 77) X.here hx (hb hby d2_74) (by decide) (by decide) rfl ?_ ?_
          · intro c19
            refine g_iconst (q := 183) (v := (1 : Int32)) X.here hx (hb hby d2_182) rfl rfl ?_
            refine g_goto (q := 187) X.here hx (hb hby d2_183) (by decide) (by decide) ?_
            exact g_zreturn (b := true) X hx hlk hrt (hb hby d2_187) (by decide) (by decide) ⟨eqT (by (try simp only [Int32.reduceToInt, Int64.reduceToInt] at hk); (try simp only [Int32.reduceToInt, Int64.reduceToInt] at c16); (try simp only [Int32.reduceToInt, Int64.reduceToInt] at c17); (try simp only [Int32.reduceToInt, Int64.reduceToInt] at c18); (try simp only [Int32.reduceToInt, Int64.reduceToInt] at c19); have f1 := rng32 a; (try simp only [Int32.reduceToInt, Int64.reduceToInt] at f1); (try simp only [Int32.reduceToInt, Int64.reduceToInt, and_true, true_and, or_true, true_or]); (first | done | omega)), eT, rfl⟩
          · intro c19
            exact LP77  _ X eT (by (try simp only [Int32.reduceToInt, Int64.reduceToInt] at hk); (try simp only [Int32.reduceToInt, Int64.reduceToInt] at c16); (try simp only [Int32.reduceToInt, Int64.reduceToInt] at c17); (try simp only [Int32.reduceToInt, Int64.reduceToInt] at c18); (try simp only [Int32.reduceToInt, Int64.reduceToInt] at c19); have f1 := rng32 a; (try simp only [Int32.reduceToInt, Int64.reduceToInt] at f1); (try simp only [Int32.reduceToInt, Int64.reduceToInt, and_true, true_and, or_true, true_or]); (first | done | omega))
  have LP30 : ∀  (T : State) (X : Stand p l e RM_rm2 s m #[.int a] below meth c T [] 0 0) (eT : T.heap = h0) (hk : 58 ≤ a.toInt ∧ (a.toInt < 59 ∨ 64 < a.toInt) ∧ (a.toInt < 91 ∨ 94 < a.toInt)), Go p e below (Fin0 s RM_rm2 (PQ (.int (b2i (decide (¬ ((58 ≤ a.toInt ∧ a.toInt ≤ 58) ∨ (65 ≤ a.toInt ∧ a.toInt ≤ 90) ∨ (95 ≤ a.toInt ∧ a.toInt ≤ 95) ∨ (97 ≤ a.toInt ∧ a.toInt ≤ 122) ∨ (192 ≤ a.toInt ∧ a.toInt ≤ 214) ∨ (216 ≤ a.toInt ∧ a.toInt ≤ 246) ∨ (248 ≤ a.toInt ∧ a.toInt ≤ 767) ∨ (880 ≤ a.toInt ∧ a.toInt ≤ 893) ∨ (895 ≤ a.toInt ∧ a.toInt ≤ 8191) ∨ (8204 ≤ a.toInt ∧ a.toInt ≤ 8205) ∨ (8304 ≤ a.toInt ∧ a.toInt ≤ 8591) ∨ (11264 ≤ a.toInt ∧ a.toInt ≤ 12271) ∨ (12289 ≤ a.toInt ∧ a.toInt ≤ 55295) ∨ (63744 ≤ a.toInt ∧ a.toInt ≤ 64975) ∨ (65008 ≤ a.toInt ∧ a.toInt ≤ 65533) ∨ (65536 ≤ a.toInt ∧ a.toInt ≤ 983039)))))) h0)) (T.setTop (mkF m 30 #[.val (.int a)] [])) := by
    intro T X eT hk
    refine g_iloadN (q := 31) X.here hx (hb hby d2_30) rfl rfl ?_
    refine g_bipush (q := 33) (v := (96 : Int32)) X.here hx (hb hby d2_31) rfl rfl ?_
    refine g_icmp_eq (q := 182) (q0 := 36) X.here hx (hb hby d2_33) (by decide) (by decide) rfl ?_ ?_
    · intro c20
      refine g_iconst (q := 183) (v := (1 : Int32)) X.here hx (hb hby d2_182) rfl rfl ?_
      refine g_goto (q := 187) X.here hx (hb hby d2_183) (by decide) (by decide) ?_
      exact g_zreturn (b := true) X hx hlk hrt (hb hby d2_187) (by decide) (by decide) ⟨eqT (by (try simp only [Int32.reduceToInt, Int64.reduceToInt] at hk); (try simp only [Int32.reduceToInt, Int64.reduceToInt] at c20); have f1 := rng32 a; (try simp only [Int32.reduceToInt, Int64.reduceToInt] at f1); (try simp only [Int32.reduceToInt, Int64.reduceToInt, and_true, true_and, or_true, true_or]); (first | done | omega)), eT, rfl⟩
    · intro c20
      refine g_iloadN (q := 37) X.here hx (hb hby d2_36) rfl rfl ?_
      refine g_bipush (q := 39) (v := (123 : Int32)) X.here hx (hb hby d2_37) rfl rfl ?_
      refine g_icmp_lt (q := 49) (q0 := 42) X.here hx (hb hby d2_39) (by decide) (by decide) rfl ?_ ?_
      · intro c21
        exact LP49  _ X eT (by (try simp only [Int32.reduceToInt, Int64.reduceToInt] at hk); (try simp only [Int32.reduceToInt, Int64.reduceToInt] at c20); (try simp only [Int32.reduceToInt, Int64.reduceToInt] at c21); have f1 := rng32 a; (try simp only [Int32.reduceToInt, Int64.reduceToInt] at f1); (try simp only [Int32.reduceToInt, Int64.reduceToInt, and_true, true_and, or_true, true_or]); (first | done | omega))
      · intro c21
        refine g_iloadN (q := 43) X.here hx (hb hby d2_42) rfl rfl ?_
        refine g_sipush (q := 46) (v := (191 : Int32)) X.here hx (hb hby d2_43) rfl rfl ?_
        refine g_icmp_le (q := 182) (q0 := 49) X.here hx (hb hby d2_46) (by decide) (by decide) rfl ?_ ?_
        · intro c22
          refine g_iconst (q := 183) (v := (1 : Int32)) X.here hx (hb hby d2_182) rfl rfl ?_
          refine g_goto (q := 187) X.here hx (hb hby d2_183) (by decide) (by decide) ?_
          exact g_zreturn (b := true) X hx hlk hrt (hb hby d2_187) (by decide) (by decide) ⟨eqT (by (try simp only [Int32.reduceToInt, Int64.reduceToInt] at hk); (try simp only [Int32.reduceToInt, Int64.reduceToInt] at c20); (try simp only [Int32.reduceToInt, Int64.reduceToInt] at c21); (try simp only [Int32.reduceToInt, Int64.reduceToInt] at c22); have f1 := rng32 a; (try simp only [Int32.reduceToInt, Int64.reduceToInt] at f1); (try simp only [Int32.reduceToInt, Int64.reduceToInt, and_true, true_and, or_true, true_or]); (first | done | omega)), eT, rfl⟩
        · intro c22
          exact LP49  _ X eT (by (try simp only [Int32.reduceToInt, Int64.reduceToInt] at hk); (try simp only [Int32.reduceToInt, Int64.reduceToInt] at c20); (try simp only [Int32.reduceToInt, Int64.reduceToInt] at c21); (try simp only [Int32.reduceToInt, Int64.reduceToInt] at c22); have f1 := rng32 a; (try simp only [Int32.reduceToInt, Int64.reduceToInt] at f1); (try simp only [Int32.reduceToInt, Int64.reduceToInt, and_true, true_and, or_true, true_or]); (first | done | omega))
  have LP18 : ∀  (T : State) (X : Stand p l e RM_rm2 s m #[.int a] below meth c T [] 0 0) (eT : T.heap = h0) (hk : 58 ≤ a.toInt ∧ (a.toInt < 59 ∨ 64 < a.toInt)), Go p e below (Fin0 s RM_rm2 (PQ (.int (b2i (decide (¬ ((58 ≤ a.toInt ∧ a.toInt ≤ 58) ∨ (65 ≤ a.toInt ∧ a.toInt ≤ 90) ∨ (95 ≤ a.toInt ∧ a.toInt ≤ 95) ∨ (97 ≤ a.toInt ∧ a.toInt ≤ 122) ∨ (192 ≤ a.toInt ∧ a.toInt ≤ 214) ∨ (216 ≤ a.toInt ∧ a.toInt ≤ 246) ∨ (248 ≤ a.toInt ∧ a.toInt ≤ 767) ∨ (880 ≤ a.toInt ∧ a.toInt ≤ 893) ∨ (895 ≤ a.toInt ∧ a.toInt ≤ 8191) ∨ (8204 ≤ a.toInt ∧ a.toInt ≤ 8205) ∨ (8304 ≤ a.toInt ∧ a.toInt ≤ 8591) ∨ (11264 ≤ a.toInt ∧ a.toInt ≤ 12271) ∨ (12289 ≤ a.toInt ∧ a.toInt ≤ 55295) ∨ (63744 ≤ a.toInt ∧ a.toInt ≤ 64975) ∨ (65008 ≤ a.toInt ∧ a.toInt ≤ 65533) ∨ (65536 ≤ a.toInt ∧ a.toInt ≤ 983039)))))) h0)) (T.setTop (mkF m 18 #[.val (.int a)] [])) := by
    intro T X eT hk
    refine g_iloadN (q := 19) X.here hx (hb hby d2_18) rfl rfl ?_
    refine g_bipush (q := 21) (v := (91 : Int32)) X.here hx (hb hby d2_19) rfl rfl ?_
    refine g_icmp_lt (q := 30) (q0 := 24) X.here hx (hb hby d2_21) (by decide) (by decide) rfl ?_ ?_
    · intro c23
      exact LP30  _ X eT (by (try simp only [Int32.reduceToInt, Int64.reduceToInt] at hk); (try simp only [Int32.reduceToInt, Int64.reduceToInt] at c23); have f1 := rng32 a; (try simp only [Int32.reduceToInt, Int64.reduceToInt] at f1); (try simp only [Int32.reduceToInt, Int64.reduceToInt, and_true, true_and, or_true, true_or]); (first | done | omega))
    · intro c23
      refine g_iloadN (q := 25) X.here hx (hb hby d2_24) rfl rfl ?_
      refine g_bipush (q := 27) (v := (94 : Int32)) X.here hx (hb hby d2_25) rfl rfl ?_
      refine g_icmp_le (q := 182) (q0 := 30) X.here hx (hb hby d2_27) (by decide) (by decide) rfl ?_ ?_
      · intro c24
        refine g_iconst (q := 183) (v := (1 : Int32)) X.here hx (hb hby d2_182) rfl rfl ?_
        refine g_goto (q := 187) X.here hx (hb hby d2_183) (by decide) (by decide) ?_
        exact g_zreturn (b := true) X hx hlk hrt (hb hby d2_187) (by decide) (by decide) ⟨eqT (by (try simp only [Int32.reduceToInt, Int64.reduceToInt] at hk); (try simp only [Int32.reduceToInt, Int64.reduceToInt] at c23); (try simp only [Int32.reduceToInt, Int64.reduceToInt] at c24); have f1 := rng32 a; (try simp only [Int32.reduceToInt, Int64.reduceToInt] at f1); (try simp only [Int32.reduceToInt, Int64.reduceToInt, and_true, true_and, or_true, true_or]); (first | done | omega)), eT, rfl⟩
      · intro c24
        exact LP30  _ X eT (by (try simp only [Int32.reduceToInt, Int64.reduceToInt] at hk); (try simp only [Int32.reduceToInt, Int64.reduceToInt] at c23); (try simp only [Int32.reduceToInt, Int64.reduceToInt] at c24); have f1 := rng32 a; (try simp only [Int32.reduceToInt, Int64.reduceToInt] at f1); (try simp only [Int32.reduceToInt, Int64.reduceToInt, and_true, true_and, or_true, true_or]); (first | done | omega))
  refine g_iloadN (q := 1) X0.here hx (hb hby d2_0) rfl rfl ?_
  refine g_bipush (q := 3) (v := (58 : Int32)) X0.here hx (hb hby d2_1) rfl rfl ?_
  refine g_icmp_lt (q := 182) (q0 := 6) X0.here hx (hb hby d2_3) (by decide) (by decide) rfl ?_ ?_
  · intro c25
    refine g_iconst (q := 183) (v := (1 : Int32)) X0.here hx (hb hby d2_182) rfl rfl ?_
    refine g_goto (q := 187) X0.here hx (hb hby d2_183) (by decide) (by decide) ?_
    exact g_zreturn (b := true) X0 hx hlk hrt (hb hby d2_187) (by decide) (by decide) ⟨eqT (by (try simp only [Int32.reduceToInt, Int64.reduceToInt] at c25); have f1 := rng32 a; (try simp only [Int32.reduceToInt, Int64.reduceToInt] at f1); (try simp only [Int32.reduceToInt, Int64.reduceToInt, and_true, true_and, or_true, true_or]); (first | done | omega)), e0, rfl⟩
  · intro c25
    refine g_iloadN (q := 7) X0.here hx (hb hby d2_6) rfl rfl ?_
    refine g_bipush (q := 9) (v := (59 : Int32)) X0.here hx (hb hby d2_7) rfl rfl ?_
    refine g_icmp_lt (q := 18) (q0 := 12) X0.here hx (hb hby d2_9) (by decide) (by decide) rfl ?_ ?_
    · intro c26
      exact LP18  _ X0 e0 (by (try simp only [Int32.reduceToInt, Int64.reduceToInt] at c25); (try simp only [Int32.reduceToInt, Int64.reduceToInt] at c26); have f1 := rng32 a; (try simp only [Int32.reduceToInt, Int64.reduceToInt] at f1); (try simp only [Int32.reduceToInt, Int64.reduceToInt, and_true, true_and, or_true, true_or]); (first | done | omega))
    · intro c26
      refine g_iloadN (q := 13) X0.here hx (hb hby d2_12) rfl rfl ?_
      refine g_bipush (q := 15) (v := (64 : Int32)) X0.here hx (hb hby d2_13) rfl rfl ?_
      refine g_icmp_le (q := 182) (q0 := 18) X0.here hx (hb hby d2_15) (by decide) (by decide) rfl ?_ ?_
      · intro c27
        refine g_iconst (q := 183) (v := (1 : Int32)) X0.here hx (hb hby d2_182) rfl rfl ?_
        refine g_goto (q := 187) X0.here hx (hb hby d2_183) (by decide) (by decide) ?_
        exact g_zreturn (b := true) X0 hx hlk hrt (hb hby d2_187) (by decide) (by decide) ⟨eqT (by (try simp only [Int32.reduceToInt, Int64.reduceToInt] at c25); (try simp only [Int32.reduceToInt, Int64.reduceToInt] at c26); (try simp only [Int32.reduceToInt, Int64.reduceToInt] at c27); have f1 := rng32 a; (try simp only [Int32.reduceToInt, Int64.reduceToInt] at f1); (try simp only [Int32.reduceToInt, Int64.reduceToInt, and_true, true_and, or_true, true_or]); (first | done | omega)), e0, rfl⟩
      · intro c27
        exact LP18  _ X0 e0 (by (try simp only [Int32.reduceToInt, Int64.reduceToInt] at c25); (try simp only [Int32.reduceToInt, Int64.reduceToInt] at c26); (try simp only [Int32.reduceToInt, Int64.reduceToInt] at c27); have f1 := rng32 a; (try simp only [Int32.reduceToInt, Int64.reduceToInt] at f1); (try simp only [Int32.reduceToInt, Int64.reduceToInt, and_true, true_and, or_true, true_or]); (first | done | omega))
theorem own_bb {P : Prop} [Decidable P] : (decide P == !decide (¬ P)) = true := by by_cases h : P <;> simp [h]
theorem pd_0 : parseMethodDescriptor "(I)Z" = some ⟨[.int], some .boolean⟩ := by decide +kernel
theorem ef_0 (m : MethodId) (z0 : Int32) (z1 : Int32) (z2 : Int32) : entryFrame m #[.int z0, .int z1, .int z2] maxLocals = mkF m 0 #[.val (.int z0), .val (.int z1), .val (.int z2), .unset, .unset, .unset, .unset] [] := by first | (simp [entryFrame, mkF, argsToLocals, Value.category, maxLocals]; done) | rfl
set_option maxRecDepth 65536 in
set_option maxHeartbeats 40000000 in
theorem rm0 (l : Launch) (Z : State) (a0 : Array Value) (hw : ∀ d ∈ tables_1, d.before a0 Z = true) (ws : List Jvm.Cond) (a : Int32) (b : Int32) (d : Int32) (h0 : Heap) (n0 : Nat) (Z0 : n0 ≤ h0.size) :
    Ctr l Z x code maxLocals ret room_1 ws #[.int a, .int b, .int d] h0 (fun v h L => v = some (.int 1) ∧ Fr n0 L) := by
  refine Ctr.of (plainFor_of_name pn_1) ?_
  intro p e s m below meth c s₁ hx hby hml hrt hlk hnm hown hZ X0 e0
  have N0 := Fr.nil n0
  refine Go.cast (ef_0 m a b d) ?_
  replace hown : s.vm.findClass x.cls = some m.cls := hown
  replace hml : c.maxLocals = 7 := hml
  replace hrt : meth.sig.returnType = some .boolean := hrt
  refine g_bipush (q := 2) (v := (33 : Int32)) X0.here hx (hb hby at_0) rfl rfl ?_
  refine g_inew_ (q := 4) (n := 33) (cap := 33) X0 hx hZ (hw _ (List.mem_of_getElem? (i := 0) rfl)) e0 rfl (by decide) (by decide) (hb hby at_2) rfl (by decide) (by decide) ?_
  intro T1 h1 o1 X1 e1 E1 q1 A1
  replace A1 : IA Z h1 o1 ([(0 : Int32), (0 : Int32), (0 : Int32), (0 : Int32), (0 : Int32), (0 : Int32), (0 : Int32), (0 : Int32), (0 : Int32), (0 : Int32), (0 : Int32), (0 : Int32), (0 : Int32), (0 : Int32), (0 : Int32), (0 : Int32), (0 : Int32), (0 : Int32), (0 : Int32), (0 : Int32), (0 : Int32), (0 : Int32), (0 : Int32), (0 : Int32), (0 : Int32), (0 : Int32), (0 : Int32), (0 : Int32), (0 : Int32), (0 : Int32), (0 : Int32), (0 : Int32), (0 : Int32)] : List Int32) := A1
  have g2 : n0 ≤ o1 := ge_new Z0 q1
  have Z3 : n0 ≤ h1.size := Nat.le_trans Z0 E1.1
  refine g_dup (q := 5) X1.here hx (hb hby at_4) rfl rfl ?_
  refine g_iconst (q := 6) (v := (0 : Int32)) X1.here hx (hb hby at_5) rfl rfl ?_
  refine g_bipush (q := 8) (v := (58 : Int32)) X1.here hx (hb hby at_6) rfl rfl ?_
  refine g_istore_ (q := 9) (i := 0) (v := (58 : Int32)) X1 hx hZ e1 A1 rfl (by show 0 < 33; decide) (hb hby at_8) rfl ?_
  intro T4 h4 X4 e4 W4 A4
  replace A4 : IA Z h4 o1 ([(58 : Int32), (0 : Int32), (0 : Int32), (0 : Int32), (0 : Int32), (0 : Int32), (0 : Int32), (0 : Int32), (0 : Int32), (0 : Int32), (0 : Int32), (0 : Int32), (0 : Int32), (0 : Int32), (0 : Int32), (0 : Int32), (0 : Int32), (0 : Int32), (0 : Int32), (0 : Int32), (0 : Int32), (0 : Int32), (0 : Int32), (0 : Int32), (0 : Int32), (0 : Int32), (0 : Int32), (0 : Int32), (0 : Int32), (0 : Int32), (0 : Int32), (0 : Int32), (0 : Int32)] : List Int32) := A4
  have N6 := Fr.snoc X4 N0 g2
  have Z7 : n0 ≤ h4.size := Nat.le_trans Z3 (Nat.le_of_eq W4.size.symm)
  refine g_dup (q := 10) X4.here hx (hb hby at_9) rfl rfl ?_
  refine g_iconst (q := 11) (v := (1 : Int32)) X4.here hx (hb hby at_10) rfl rfl ?_
  refine g_bipush (q := 13) (v := (65 : Int32)) X4.here hx (hb hby at_11) rfl rfl ?_
  refine g_istore_ (q := 14) (i := 1) (v := (65 : Int32)) X4 hx hZ e4 A4 rfl (by show 1 < 33; decide) (hb hby at_13) rfl ?_
  intro T8 h8 X8 e8 W8 A8
  replace A8 : IA Z h8 o1 ([(58 : Int32), (65 : Int32), (0 : Int32), (0 : Int32), (0 : Int32), (0 : Int32), (0 : Int32), (0 : Int32), (0 : Int32), (0 : Int32), (0 : Int32), (0 : Int32), (0 : Int32), (0 : Int32), (0 : Int32), (0 : Int32), (0 : Int32), (0 : Int32), (0 : Int32), (0 : Int32), (0 : Int32), (0 : Int32), (0 : Int32), (0 : Int32), (0 : Int32), (0 : Int32), (0 : Int32), (0 : Int32), (0 : Int32), (0 : Int32), (0 : Int32), (0 : Int32), (0 : Int32)] : List Int32) := A8
  have N10 := Fr.snoc X8 N6 g2
  have Z11 : n0 ≤ h8.size := Nat.le_trans Z7 (Nat.le_of_eq W8.size.symm)
  refine g_dup (q := 15) X8.here hx (hb hby at_14) rfl rfl ?_
  refine g_iconst (q := 16) (v := (2 : Int32)) X8.here hx (hb hby at_15) rfl rfl ?_
  refine g_bipush (q := 18) (v := (90 : Int32)) X8.here hx (hb hby at_16) rfl rfl ?_
  refine g_istore_ (q := 19) (i := 2) (v := (90 : Int32)) X8 hx hZ e8 A8 rfl (by show 2 < 33; decide) (hb hby at_18) rfl ?_
  intro T12 h12 X12 e12 W12 A12
  replace A12 : IA Z h12 o1 ([(58 : Int32), (65 : Int32), (90 : Int32), (0 : Int32), (0 : Int32), (0 : Int32), (0 : Int32), (0 : Int32), (0 : Int32), (0 : Int32), (0 : Int32), (0 : Int32), (0 : Int32), (0 : Int32), (0 : Int32), (0 : Int32), (0 : Int32), (0 : Int32), (0 : Int32), (0 : Int32), (0 : Int32), (0 : Int32), (0 : Int32), (0 : Int32), (0 : Int32), (0 : Int32), (0 : Int32), (0 : Int32), (0 : Int32), (0 : Int32), (0 : Int32), (0 : Int32), (0 : Int32)] : List Int32) := A12
  have N14 := Fr.snoc X12 N10 g2
  have Z15 : n0 ≤ h12.size := Nat.le_trans Z11 (Nat.le_of_eq W12.size.symm)
  refine g_dup (q := 20) X12.here hx (hb hby at_19) rfl rfl ?_
  refine g_iconst (q := 21) (v := (3 : Int32)) X12.here hx (hb hby at_20) rfl rfl ?_
  refine g_bipush (q := 23) (v := (95 : Int32)) X12.here hx (hb hby at_21) rfl rfl ?_
  refine g_istore_ (q := 24) (i := 3) (v := (95 : Int32)) X12 hx hZ e12 A12 rfl (by show 3 < 33; decide) (hb hby at_23) rfl ?_
  intro T16 h16 X16 e16 W16 A16
  replace A16 : IA Z h16 o1 ([(58 : Int32), (65 : Int32), (90 : Int32), (95 : Int32), (0 : Int32), (0 : Int32), (0 : Int32), (0 : Int32), (0 : Int32), (0 : Int32), (0 : Int32), (0 : Int32), (0 : Int32), (0 : Int32), (0 : Int32), (0 : Int32), (0 : Int32), (0 : Int32), (0 : Int32), (0 : Int32), (0 : Int32), (0 : Int32), (0 : Int32), (0 : Int32), (0 : Int32), (0 : Int32), (0 : Int32), (0 : Int32), (0 : Int32), (0 : Int32), (0 : Int32), (0 : Int32), (0 : Int32)] : List Int32) := A16
  have N18 := Fr.snoc X16 N14 g2
  have Z19 : n0 ≤ h16.size := Nat.le_trans Z15 (Nat.le_of_eq W16.size.symm)
  refine g_dup (q := 25) X16.here hx (hb hby at_24) rfl rfl ?_
  refine g_iconst (q := 26) (v := (4 : Int32)) X16.here hx (hb hby at_25) rfl rfl ?_
  refine g_bipush (q := 28) (v := (97 : Int32)) X16.here hx (hb hby at_26) rfl rfl ?_
  refine g_istore_ (q := 29) (i := 4) (v := (97 : Int32)) X16 hx hZ e16 A16 rfl (by show 4 < 33; decide) (hb hby at_28) rfl ?_
  intro T20 h20 X20 e20 W20 A20
  replace A20 : IA Z h20 o1 ([(58 : Int32), (65 : Int32), (90 : Int32), (95 : Int32), (97 : Int32), (0 : Int32), (0 : Int32), (0 : Int32), (0 : Int32), (0 : Int32), (0 : Int32), (0 : Int32), (0 : Int32), (0 : Int32), (0 : Int32), (0 : Int32), (0 : Int32), (0 : Int32), (0 : Int32), (0 : Int32), (0 : Int32), (0 : Int32), (0 : Int32), (0 : Int32), (0 : Int32), (0 : Int32), (0 : Int32), (0 : Int32), (0 : Int32), (0 : Int32), (0 : Int32), (0 : Int32), (0 : Int32)] : List Int32) := A20
  have N22 := Fr.snoc X20 N18 g2
  have Z23 : n0 ≤ h20.size := Nat.le_trans Z19 (Nat.le_of_eq W20.size.symm)
  refine g_dup (q := 30) X20.here hx (hb hby at_29) rfl rfl ?_
  refine g_iconst (q := 31) (v := (5 : Int32)) X20.here hx (hb hby at_30) rfl rfl ?_
  refine g_bipush (q := 33) (v := (122 : Int32)) X20.here hx (hb hby at_31) rfl rfl ?_
  refine g_istore_ (q := 34) (i := 5) (v := (122 : Int32)) X20 hx hZ e20 A20 rfl (by show 5 < 33; decide) (hb hby at_33) rfl ?_
  intro T24 h24 X24 e24 W24 A24
  replace A24 : IA Z h24 o1 ([(58 : Int32), (65 : Int32), (90 : Int32), (95 : Int32), (97 : Int32), (122 : Int32), (0 : Int32), (0 : Int32), (0 : Int32), (0 : Int32), (0 : Int32), (0 : Int32), (0 : Int32), (0 : Int32), (0 : Int32), (0 : Int32), (0 : Int32), (0 : Int32), (0 : Int32), (0 : Int32), (0 : Int32), (0 : Int32), (0 : Int32), (0 : Int32), (0 : Int32), (0 : Int32), (0 : Int32), (0 : Int32), (0 : Int32), (0 : Int32), (0 : Int32), (0 : Int32), (0 : Int32)] : List Int32) := A24
  have N26 := Fr.snoc X24 N22 g2
  have Z27 : n0 ≤ h24.size := Nat.le_trans Z23 (Nat.le_of_eq W24.size.symm)
  refine g_dup (q := 35) X24.here hx (hb hby at_34) rfl rfl ?_
  refine g_bipush (q := 37) (v := (6 : Int32)) X24.here hx (hb hby at_35) rfl rfl ?_
  refine g_sipush (q := 40) (v := (192 : Int32)) X24.here hx (hb hby at_37) rfl rfl ?_
  refine g_istore_ (q := 41) (i := 6) (v := (192 : Int32)) X24 hx hZ e24 A24 rfl (by show 6 < 33; decide) (hb hby at_40) rfl ?_
  intro T28 h28 X28 e28 W28 A28
  replace A28 : IA Z h28 o1 ([(58 : Int32), (65 : Int32), (90 : Int32), (95 : Int32), (97 : Int32), (122 : Int32), (192 : Int32), (0 : Int32), (0 : Int32), (0 : Int32), (0 : Int32), (0 : Int32), (0 : Int32), (0 : Int32), (0 : Int32), (0 : Int32), (0 : Int32), (0 : Int32), (0 : Int32), (0 : Int32), (0 : Int32), (0 : Int32), (0 : Int32), (0 : Int32), (0 : Int32), (0 : Int32), (0 : Int32), (0 : Int32), (0 : Int32), (0 : Int32), (0 : Int32), (0 : Int32), (0 : Int32)] : List Int32) := A28
  have N30 := Fr.snoc X28 N26 g2
  have Z31 : n0 ≤ h28.size := Nat.le_trans Z27 (Nat.le_of_eq W28.size.symm)
  refine g_dup (q := 42) X28.here hx (hb hby at_41) rfl rfl ?_
  refine g_bipush (q := 44) (v := (7 : Int32)) X28.here hx (hb hby at_42) rfl rfl ?_
  refine g_sipush (q := 47) (v := (214 : Int32)) X28.here hx (hb hby at_44) rfl rfl ?_
  refine g_istore_ (q := 48) (i := 7) (v := (214 : Int32)) X28 hx hZ e28 A28 rfl (by show 7 < 33; decide) (hb hby at_47) rfl ?_
  intro T32 h32 X32 e32 W32 A32
  replace A32 : IA Z h32 o1 ([(58 : Int32), (65 : Int32), (90 : Int32), (95 : Int32), (97 : Int32), (122 : Int32), (192 : Int32), (214 : Int32), (0 : Int32), (0 : Int32), (0 : Int32), (0 : Int32), (0 : Int32), (0 : Int32), (0 : Int32), (0 : Int32), (0 : Int32), (0 : Int32), (0 : Int32), (0 : Int32), (0 : Int32), (0 : Int32), (0 : Int32), (0 : Int32), (0 : Int32), (0 : Int32), (0 : Int32), (0 : Int32), (0 : Int32), (0 : Int32), (0 : Int32), (0 : Int32), (0 : Int32)] : List Int32) := A32
  have N34 := Fr.snoc X32 N30 g2
  have Z35 : n0 ≤ h32.size := Nat.le_trans Z31 (Nat.le_of_eq W32.size.symm)
  refine g_dup (q := 49) X32.here hx (hb hby at_48) rfl rfl ?_
  refine g_bipush (q := 51) (v := (8 : Int32)) X32.here hx (hb hby at_49) rfl rfl ?_
  refine g_sipush (q := 54) (v := (216 : Int32)) X32.here hx (hb hby at_51) rfl rfl ?_
  refine g_istore_ (q := 55) (i := 8) (v := (216 : Int32)) X32 hx hZ e32 A32 rfl (by show 8 < 33; decide) (hb hby at_54) rfl ?_
  intro T36 h36 X36 e36 W36 A36
  replace A36 : IA Z h36 o1 ([(58 : Int32), (65 : Int32), (90 : Int32), (95 : Int32), (97 : Int32), (122 : Int32), (192 : Int32), (214 : Int32), (216 : Int32), (0 : Int32), (0 : Int32), (0 : Int32), (0 : Int32), (0 : Int32), (0 : Int32), (0 : Int32), (0 : Int32), (0 : Int32), (0 : Int32), (0 : Int32), (0 : Int32), (0 : Int32), (0 : Int32), (0 : Int32), (0 : Int32), (0 : Int32), (0 : Int32), (0 : Int32), (0 : Int32), (0 : Int32), (0 : Int32), (0 : Int32), (0 : Int32)] : List Int32) := A36
  have N38 := Fr.snoc X36 N34 g2
  have Z39 : n0 ≤ h36.size := Nat.le_trans Z35 (Nat.le_of_eq W36.size.symm)
  refine g_dup (q := 56) X36.here hx (hb hby at_55) rfl rfl ?_
  refine g_bipush (q := 58) (v := (9 : Int32)) X36.here hx (hb hby at_56) rfl rfl ?_
  refine g_sipush (q := 61) (v := (246 : Int32)) X36.here hx (hb hby at_58) rfl rfl ?_
  refine g_istore_ (q := 62) (i := 9) (v := (246 : Int32)) X36 hx hZ e36 A36 rfl (by show 9 < 33; decide) (hb hby at_61) rfl ?_
  intro T40 h40 X40 e40 W40 A40
  replace A40 : IA Z h40 o1 ([(58 : Int32), (65 : Int32), (90 : Int32), (95 : Int32), (97 : Int32), (122 : Int32), (192 : Int32), (214 : Int32), (216 : Int32), (246 : Int32), (0 : Int32), (0 : Int32), (0 : Int32), (0 : Int32), (0 : Int32), (0 : Int32), (0 : Int32), (0 : Int32), (0 : Int32), (0 : Int32), (0 : Int32), (0 : Int32), (0 : Int32), (0 : Int32), (0 : Int32), (0 : Int32), (0 : Int32), (0 : Int32), (0 : Int32), (0 : Int32), (0 : Int32), (0 : Int32), (0 : Int32)] : List Int32) := A40
  have N42 := Fr.snoc X40 N38 g2
  have Z43 : n0 ≤ h40.size := Nat.le_trans Z39 (Nat.le_of_eq W40.size.symm)
  refine g_dup (q := 63) X40.here hx (hb hby at_62) rfl rfl ?_
  refine g_bipush (q := 65) (v := (10 : Int32)) X40.here hx (hb hby at_63) rfl rfl ?_
  refine g_sipush (q := 68) (v := (248 : Int32)) X40.here hx (hb hby at_65) rfl rfl ?_
  refine g_istore_ (q := 69) (i := 10) (v := (248 : Int32)) X40 hx hZ e40 A40 rfl (by show 10 < 33; decide) (hb hby at_68) rfl ?_
  intro T44 h44 X44 e44 W44 A44
  replace A44 : IA Z h44 o1 ([(58 : Int32), (65 : Int32), (90 : Int32), (95 : Int32), (97 : Int32), (122 : Int32), (192 : Int32), (214 : Int32), (216 : Int32), (246 : Int32), (248 : Int32), (0 : Int32), (0 : Int32), (0 : Int32), (0 : Int32), (0 : Int32), (0 : Int32), (0 : Int32), (0 : Int32), (0 : Int32), (0 : Int32), (0 : Int32), (0 : Int32), (0 : Int32), (0 : Int32), (0 : Int32), (0 : Int32), (0 : Int32), (0 : Int32), (0 : Int32), (0 : Int32), (0 : Int32), (0 : Int32)] : List Int32) := A44
  have N46 := Fr.snoc X44 N42 g2
  have Z47 : n0 ≤ h44.size := Nat.le_trans Z43 (Nat.le_of_eq W44.size.symm)
  refine g_dup (q := 70) X44.here hx (hb hby at_69) rfl rfl ?_
  refine g_bipush (q := 72) (v := (11 : Int32)) X44.here hx (hb hby at_70) rfl rfl ?_
  refine g_sipush (q := 75) (v := (767 : Int32)) X44.here hx (hb hby at_72) rfl rfl ?_
  refine g_istore_ (q := 76) (i := 11) (v := (767 : Int32)) X44 hx hZ e44 A44 rfl (by show 11 < 33; decide) (hb hby at_75) rfl ?_
  intro T48 h48 X48 e48 W48 A48
  replace A48 : IA Z h48 o1 ([(58 : Int32), (65 : Int32), (90 : Int32), (95 : Int32), (97 : Int32), (122 : Int32), (192 : Int32), (214 : Int32), (216 : Int32), (246 : Int32), (248 : Int32), (767 : Int32), (0 : Int32), (0 : Int32), (0 : Int32), (0 : Int32), (0 : Int32), (0 : Int32), (0 : Int32), (0 : Int32), (0 : Int32), (0 : Int32), (0 : Int32), (0 : Int32), (0 : Int32), (0 : Int32), (0 : Int32), (0 : Int32), (0 : Int32), (0 : Int32), (0 : Int32), (0 : Int32), (0 : Int32)] : List Int32) := A48
  have N50 := Fr.snoc X48 N46 g2
  have Z51 : n0 ≤ h48.size := Nat.le_trans Z47 (Nat.le_of_eq W48.size.symm)
  refine g_dup (q := 77) X48.here hx (hb hby at_76) rfl rfl ?_
  refine g_bipush (q := 79) (v := (12 : Int32)) X48.here hx (hb hby at_77) rfl rfl ?_
  refine g_sipush (q := 82) (v := (880 : Int32)) X48.here hx (hb hby at_79) rfl rfl ?_
  refine g_istore_ (q := 83) (i := 12) (v := (880 : Int32)) X48 hx hZ e48 A48 rfl (by show 12 < 33; decide) (hb hby at_82) rfl ?_
  intro T52 h52 X52 e52 W52 A52
  replace A52 : IA Z h52 o1 ([(58 : Int32), (65 : Int32), (90 : Int32), (95 : Int32), (97 : Int32), (122 : Int32), (192 : Int32), (214 : Int32), (216 : Int32), (246 : Int32), (248 : Int32), (767 : Int32), (880 : Int32), (0 : Int32), (0 : Int32), (0 : Int32), (0 : Int32), (0 : Int32), (0 : Int32), (0 : Int32), (0 : Int32), (0 : Int32), (0 : Int32), (0 : Int32), (0 : Int32), (0 : Int32), (0 : Int32), (0 : Int32), (0 : Int32), (0 : Int32), (0 : Int32), (0 : Int32), (0 : Int32)] : List Int32) := A52
  have N54 := Fr.snoc X52 N50 g2
  have Z55 : n0 ≤ h52.size := Nat.le_trans Z51 (Nat.le_of_eq W52.size.symm)
  refine g_dup (q := 84) X52.here hx (hb hby at_83) rfl rfl ?_
  refine g_bipush (q := 86) (v := (13 : Int32)) X52.here hx (hb hby at_84) rfl rfl ?_
  refine g_sipush (q := 89) (v := (893 : Int32)) X52.here hx (hb hby at_86) rfl rfl ?_
  refine g_istore_ (q := 90) (i := 13) (v := (893 : Int32)) X52 hx hZ e52 A52 rfl (by show 13 < 33; decide) (hb hby at_89) rfl ?_
  intro T56 h56 X56 e56 W56 A56
  replace A56 : IA Z h56 o1 ([(58 : Int32), (65 : Int32), (90 : Int32), (95 : Int32), (97 : Int32), (122 : Int32), (192 : Int32), (214 : Int32), (216 : Int32), (246 : Int32), (248 : Int32), (767 : Int32), (880 : Int32), (893 : Int32), (0 : Int32), (0 : Int32), (0 : Int32), (0 : Int32), (0 : Int32), (0 : Int32), (0 : Int32), (0 : Int32), (0 : Int32), (0 : Int32), (0 : Int32), (0 : Int32), (0 : Int32), (0 : Int32), (0 : Int32), (0 : Int32), (0 : Int32), (0 : Int32), (0 : Int32)] : List Int32) := A56
  have N58 := Fr.snoc X56 N54 g2
  have Z59 : n0 ≤ h56.size := Nat.le_trans Z55 (Nat.le_of_eq W56.size.symm)
  refine g_dup (q := 91) X56.here hx (hb hby at_90) rfl rfl ?_
  refine g_bipush (q := 93) (v := (14 : Int32)) X56.here hx (hb hby at_91) rfl rfl ?_
  refine g_sipush (q := 96) (v := (895 : Int32)) X56.here hx (hb hby at_93) rfl rfl ?_
  refine g_istore_ (q := 97) (i := 14) (v := (895 : Int32)) X56 hx hZ e56 A56 rfl (by show 14 < 33; decide) (hb hby at_96) rfl ?_
  intro T60 h60 X60 e60 W60 A60
  replace A60 : IA Z h60 o1 ([(58 : Int32), (65 : Int32), (90 : Int32), (95 : Int32), (97 : Int32), (122 : Int32), (192 : Int32), (214 : Int32), (216 : Int32), (246 : Int32), (248 : Int32), (767 : Int32), (880 : Int32), (893 : Int32), (895 : Int32), (0 : Int32), (0 : Int32), (0 : Int32), (0 : Int32), (0 : Int32), (0 : Int32), (0 : Int32), (0 : Int32), (0 : Int32), (0 : Int32), (0 : Int32), (0 : Int32), (0 : Int32), (0 : Int32), (0 : Int32), (0 : Int32), (0 : Int32), (0 : Int32)] : List Int32) := A60
  have N62 := Fr.snoc X60 N58 g2
  have Z63 : n0 ≤ h60.size := Nat.le_trans Z59 (Nat.le_of_eq W60.size.symm)
  refine g_dup (q := 98) X60.here hx (hb hby at_97) rfl rfl ?_
  refine g_bipush (q := 100) (v := (15 : Int32)) X60.here hx (hb hby at_98) rfl rfl ?_
  refine g_sipush (q := 103) (v := (8191 : Int32)) X60.here hx (hb hby at_100) rfl rfl ?_
  refine g_istore_ (q := 104) (i := 15) (v := (8191 : Int32)) X60 hx hZ e60 A60 rfl (by show 15 < 33; decide) (hb hby at_103) rfl ?_
  intro T64 h64 X64 e64 W64 A64
  replace A64 : IA Z h64 o1 ([(58 : Int32), (65 : Int32), (90 : Int32), (95 : Int32), (97 : Int32), (122 : Int32), (192 : Int32), (214 : Int32), (216 : Int32), (246 : Int32), (248 : Int32), (767 : Int32), (880 : Int32), (893 : Int32), (895 : Int32), (8191 : Int32), (0 : Int32), (0 : Int32), (0 : Int32), (0 : Int32), (0 : Int32), (0 : Int32), (0 : Int32), (0 : Int32), (0 : Int32), (0 : Int32), (0 : Int32), (0 : Int32), (0 : Int32), (0 : Int32), (0 : Int32), (0 : Int32), (0 : Int32)] : List Int32) := A64
  have N66 := Fr.snoc X64 N62 g2
  have Z67 : n0 ≤ h64.size := Nat.le_trans Z63 (Nat.le_of_eq W64.size.symm)
  refine g_dup (q := 105) X64.here hx (hb hby at_104) rfl rfl ?_
  refine g_bipush (q := 107) (v := (16 : Int32)) X64.here hx (hb hby at_105) rfl rfl ?_
  refine g_sipush (q := 110) (v := (8204 : Int32)) X64.here hx (hb hby at_107) rfl rfl ?_
  refine g_istore_ (q := 111) (i := 16) (v := (8204 : Int32)) X64 hx hZ e64 A64 rfl (by show 16 < 33; decide) (hb hby at_110) rfl ?_
  intro T68 h68 X68 e68 W68 A68
  replace A68 : IA Z h68 o1 ([(58 : Int32), (65 : Int32), (90 : Int32), (95 : Int32), (97 : Int32), (122 : Int32), (192 : Int32), (214 : Int32), (216 : Int32), (246 : Int32), (248 : Int32), (767 : Int32), (880 : Int32), (893 : Int32), (895 : Int32), (8191 : Int32), (8204 : Int32), (0 : Int32), (0 : Int32), (0 : Int32), (0 : Int32), (0 : Int32), (0 : Int32), (0 : Int32), (0 : Int32), (0 : Int32), (0 : Int32), (0 : Int32), (0 : Int32), (0 : Int32), (0 : Int32), (0 : Int32), (0 : Int32)] : List Int32) := A68
  have N70 := Fr.snoc X68 N66 g2
  have Z71 : n0 ≤ h68.size := Nat.le_trans Z67 (Nat.le_of_eq W68.size.symm)
  refine g_dup (q := 112) X68.here hx (hb hby at_111) rfl rfl ?_
  refine g_bipush (q := 114) (v := (17 : Int32)) X68.here hx (hb hby at_112) rfl rfl ?_
  refine g_sipush (q := 117) (v := (8205 : Int32)) X68.here hx (hb hby at_114) rfl rfl ?_
  refine g_istore_ (q := 118) (i := 17) (v := (8205 : Int32)) X68 hx hZ e68 A68 rfl (by show 17 < 33; decide) (hb hby at_117) rfl ?_
  intro T72 h72 X72 e72 W72 A72
  replace A72 : IA Z h72 o1 ([(58 : Int32), (65 : Int32), (90 : Int32), (95 : Int32), (97 : Int32), (122 : Int32), (192 : Int32), (214 : Int32), (216 : Int32), (246 : Int32), (248 : Int32), (767 : Int32), (880 : Int32), (893 : Int32), (895 : Int32), (8191 : Int32), (8204 : Int32), (8205 : Int32), (0 : Int32), (0 : Int32), (0 : Int32), (0 : Int32), (0 : Int32), (0 : Int32), (0 : Int32), (0 : Int32), (0 : Int32), (0 : Int32), (0 : Int32), (0 : Int32), (0 : Int32), (0 : Int32), (0 : Int32)] : List Int32) := A72
  have N74 := Fr.snoc X72 N70 g2
  have Z75 : n0 ≤ h72.size := Nat.le_trans Z71 (Nat.le_of_eq W72.size.symm)
  refine g_dup (q := 119) X72.here hx (hb hby at_118) rfl rfl ?_
  refine g_bipush (q := 121) (v := (18 : Int32)) X72.here hx (hb hby at_119) rfl rfl ?_
  refine g_sipush (q := 124) (v := (8304 : Int32)) X72.here hx (hb hby at_121) rfl rfl ?_
  refine g_istore_ (q := 125) (i := 18) (v := (8304 : Int32)) X72 hx hZ e72 A72 rfl (by show 18 < 33; decide) (hb hby at_124) rfl ?_
  intro T76 h76 X76 e76 W76 A76
  replace A76 : IA Z h76 o1 ([(58 : Int32), (65 : Int32), (90 : Int32), (95 : Int32), (97 : Int32), (122 : Int32), (192 : Int32), (214 : Int32), (216 : Int32), (246 : Int32), (248 : Int32), (767 : Int32), (880 : Int32), (893 : Int32), (895 : Int32), (8191 : Int32), (8204 : Int32), (8205 : Int32), (8304 : Int32), (0 : Int32), (0 : Int32), (0 : Int32), (0 : Int32), (0 : Int32), (0 : Int32), (0 : Int32), (0 : Int32), (0 : Int32), (0 : Int32), (0 : Int32), (0 : Int32), (0 : Int32), (0 : Int32)] : List Int32) := A76
  have N78 := Fr.snoc X76 N74 g2
  have Z79 : n0 ≤ h76.size := Nat.le_trans Z75 (Nat.le_of_eq W76.size.symm)
  refine g_dup (q := 126) X76.here hx (hb hby at_125) rfl rfl ?_
  refine g_bipush (q := 128) (v := (19 : Int32)) X76.here hx (hb hby at_126) rfl rfl ?_
  refine g_sipush (q := 131) (v := (8591 : Int32)) X76.here hx (hb hby at_128) rfl rfl ?_
  refine g_istore_ (q := 132) (i := 19) (v := (8591 : Int32)) X76 hx hZ e76 A76 rfl (by show 19 < 33; decide) (hb hby at_131) rfl ?_
  intro T80 h80 X80 e80 W80 A80
  replace A80 : IA Z h80 o1 ([(58 : Int32), (65 : Int32), (90 : Int32), (95 : Int32), (97 : Int32), (122 : Int32), (192 : Int32), (214 : Int32), (216 : Int32), (246 : Int32), (248 : Int32), (767 : Int32), (880 : Int32), (893 : Int32), (895 : Int32), (8191 : Int32), (8204 : Int32), (8205 : Int32), (8304 : Int32), (8591 : Int32), (0 : Int32), (0 : Int32), (0 : Int32), (0 : Int32), (0 : Int32), (0 : Int32), (0 : Int32), (0 : Int32), (0 : Int32), (0 : Int32), (0 : Int32), (0 : Int32), (0 : Int32)] : List Int32) := A80
  have N82 := Fr.snoc X80 N78 g2
  have Z83 : n0 ≤ h80.size := Nat.le_trans Z79 (Nat.le_of_eq W80.size.symm)
  refine g_dup (q := 133) X80.here hx (hb hby at_132) rfl rfl ?_
  refine g_bipush (q := 135) (v := (20 : Int32)) X80.here hx (hb hby at_133) rfl rfl ?_
  refine g_sipush (q := 138) (v := (11264 : Int32)) X80.here hx (hb hby at_135) rfl rfl ?_
  refine g_istore_ (q := 139) (i := 20) (v := (11264 : Int32)) X80 hx hZ e80 A80 rfl (by show 20 < 33; decide) (hb hby at_138) rfl ?_
  intro T84 h84 X84 e84 W84 A84
  replace A84 : IA Z h84 o1 ([(58 : Int32), (65 : Int32), (90 : Int32), (95 : Int32), (97 : Int32), (122 : Int32), (192 : Int32), (214 : Int32), (216 : Int32), (246 : Int32), (248 : Int32), (767 : Int32), (880 : Int32), (893 : Int32), (895 : Int32), (8191 : Int32), (8204 : Int32), (8205 : Int32), (8304 : Int32), (8591 : Int32), (11264 : Int32), (0 : Int32), (0 : Int32), (0 : Int32), (0 : Int32), (0 : Int32), (0 : Int32), (0 : Int32), (0 : Int32), (0 : Int32), (0 : Int32), (0 : Int32), (0 : Int32)] : List Int32) := A84
  have N86 := Fr.snoc X84 N82 g2
  have Z87 : n0 ≤ h84.size := Nat.le_trans Z83 (Nat.le_of_eq W84.size.symm)
  refine g_dup (q := 140) X84.here hx (hb hby at_139) rfl rfl ?_
  refine g_bipush (q := 142) (v := (21 : Int32)) X84.here hx (hb hby at_140) rfl rfl ?_
  refine g_sipush (q := 145) (v := (12271 : Int32)) X84.here hx (hb hby at_142) rfl rfl ?_
  refine g_istore_ (q := 146) (i := 21) (v := (12271 : Int32)) X84 hx hZ e84 A84 rfl (by show 21 < 33; decide) (hb hby at_145) rfl ?_
  intro T88 h88 X88 e88 W88 A88
  replace A88 : IA Z h88 o1 ([(58 : Int32), (65 : Int32), (90 : Int32), (95 : Int32), (97 : Int32), (122 : Int32), (192 : Int32), (214 : Int32), (216 : Int32), (246 : Int32), (248 : Int32), (767 : Int32), (880 : Int32), (893 : Int32), (895 : Int32), (8191 : Int32), (8204 : Int32), (8205 : Int32), (8304 : Int32), (8591 : Int32), (11264 : Int32), (12271 : Int32), (0 : Int32), (0 : Int32), (0 : Int32), (0 : Int32), (0 : Int32), (0 : Int32), (0 : Int32), (0 : Int32), (0 : Int32), (0 : Int32), (0 : Int32)] : List Int32) := A88
  have N90 := Fr.snoc X88 N86 g2
  have Z91 : n0 ≤ h88.size := Nat.le_trans Z87 (Nat.le_of_eq W88.size.symm)
  refine g_dup (q := 147) X88.here hx (hb hby at_146) rfl rfl ?_
  refine g_bipush (q := 149) (v := (22 : Int32)) X88.here hx (hb hby at_147) rfl rfl ?_
  refine g_sipush (q := 152) (v := (12289 : Int32)) X88.here hx (hb hby at_149) rfl rfl ?_
  refine g_istore_ (q := 153) (i := 22) (v := (12289 : Int32)) X88 hx hZ e88 A88 rfl (by show 22 < 33; decide) (hb hby at_152) rfl ?_
  intro T92 h92 X92 e92 W92 A92
  replace A92 : IA Z h92 o1 ([(58 : Int32), (65 : Int32), (90 : Int32), (95 : Int32), (97 : Int32), (122 : Int32), (192 : Int32), (214 : Int32), (216 : Int32), (246 : Int32), (248 : Int32), (767 : Int32), (880 : Int32), (893 : Int32), (895 : Int32), (8191 : Int32), (8204 : Int32), (8205 : Int32), (8304 : Int32), (8591 : Int32), (11264 : Int32), (12271 : Int32), (12289 : Int32), (0 : Int32), (0 : Int32), (0 : Int32), (0 : Int32), (0 : Int32), (0 : Int32), (0 : Int32), (0 : Int32), (0 : Int32), (0 : Int32)] : List Int32) := A92
  have N94 := Fr.snoc X92 N90 g2
  have Z95 : n0 ≤ h92.size := Nat.le_trans Z91 (Nat.le_of_eq W92.size.symm)
  refine g_dup (q := 154) X92.here hx (hb hby at_153) rfl rfl ?_
  refine g_bipush (q := 156) (v := (23 : Int32)) X92.here hx (hb hby at_154) rfl rfl ?_
  refine g_ldcI (q := 158) X92 hx hZ hown (hw _ (List.mem_of_getElem? (i := 1) rfl)) (hb hby at_156) rfl ?_
  refine g_istore_ (q := 159) (i := 23) (v := (55295 : Int32)) X92 hx hZ e92 A92 rfl (by show 23 < 33; decide) (hb hby at_158) rfl ?_
  intro T96 h96 X96 e96 W96 A96
  replace A96 : IA Z h96 o1 ([(58 : Int32), (65 : Int32), (90 : Int32), (95 : Int32), (97 : Int32), (122 : Int32), (192 : Int32), (214 : Int32), (216 : Int32), (246 : Int32), (248 : Int32), (767 : Int32), (880 : Int32), (893 : Int32), (895 : Int32), (8191 : Int32), (8204 : Int32), (8205 : Int32), (8304 : Int32), (8591 : Int32), (11264 : Int32), (12271 : Int32), (12289 : Int32), (55295 : Int32), (0 : Int32), (0 : Int32), (0 : Int32), (0 : Int32), (0 : Int32), (0 : Int32), (0 : Int32), (0 : Int32), (0 : Int32)] : List Int32) := A96
  have N98 := Fr.snoc X96 N94 g2
  have Z99 : n0 ≤ h96.size := Nat.le_trans Z95 (Nat.le_of_eq W96.size.symm)
  refine g_dup (q := 160) X96.here hx (hb hby at_159) rfl rfl ?_
  refine g_bipush (q := 162) (v := (24 : Int32)) X96.here hx (hb hby at_160) rfl rfl ?_
  refine g_ldcI (q := 164) X96 hx hZ hown (hw _ (List.mem_of_getElem? (i := 2) rfl)) (hb hby at_162) rfl ?_
  refine g_istore_ (q := 165) (i := 24) (v := (63744 : Int32)) X96 hx hZ e96 A96 rfl (by show 24 < 33; decide) (hb hby at_164) rfl ?_
  intro T100 h100 X100 e100 W100 A100
  replace A100 : IA Z h100 o1 ([(58 : Int32), (65 : Int32), (90 : Int32), (95 : Int32), (97 : Int32), (122 : Int32), (192 : Int32), (214 : Int32), (216 : Int32), (246 : Int32), (248 : Int32), (767 : Int32), (880 : Int32), (893 : Int32), (895 : Int32), (8191 : Int32), (8204 : Int32), (8205 : Int32), (8304 : Int32), (8591 : Int32), (11264 : Int32), (12271 : Int32), (12289 : Int32), (55295 : Int32), (63744 : Int32), (0 : Int32), (0 : Int32), (0 : Int32), (0 : Int32), (0 : Int32), (0 : Int32), (0 : Int32), (0 : Int32)] : List Int32) := A100
  have N102 := Fr.snoc X100 N98 g2
  have Z103 : n0 ≤ h100.size := Nat.le_trans Z99 (Nat.le_of_eq W100.size.symm)
  refine g_dup (q := 166) X100.here hx (hb hby at_165) rfl rfl ?_
  refine g_bipush (q := 168) (v := (25 : Int32)) X100.here hx (hb hby at_166) rfl rfl ?_
  refine g_ldcI (q := 170) X100 hx hZ hown (hw _ (List.mem_of_getElem? (i := 3) rfl)) (hb hby at_168) rfl ?_
  refine g_istore_ (q := 171) (i := 25) (v := (64975 : Int32)) X100 hx hZ e100 A100 rfl (by show 25 < 33; decide) (hb hby at_170) rfl ?_
  intro T104 h104 X104 e104 W104 A104
  replace A104 : IA Z h104 o1 ([(58 : Int32), (65 : Int32), (90 : Int32), (95 : Int32), (97 : Int32), (122 : Int32), (192 : Int32), (214 : Int32), (216 : Int32), (246 : Int32), (248 : Int32), (767 : Int32), (880 : Int32), (893 : Int32), (895 : Int32), (8191 : Int32), (8204 : Int32), (8205 : Int32), (8304 : Int32), (8591 : Int32), (11264 : Int32), (12271 : Int32), (12289 : Int32), (55295 : Int32), (63744 : Int32), (64975 : Int32), (0 : Int32), (0 : Int32), (0 : Int32), (0 : Int32), (0 : Int32), (0 : Int32), (0 : Int32)] : List Int32) := A104
  have N106 := Fr.snoc X104 N102 g2
  have Z107 : n0 ≤ h104.size := Nat.le_trans Z103 (Nat.le_of_eq W104.size.symm)
  refine g_dup (q := 172) X104.here hx (hb hby at_171) rfl rfl ?_
  refine g_bipush (q := 174) (v := (26 : Int32)) X104.here hx (hb hby at_172) rfl rfl ?_
  refine g_ldcI (q := 176) X104 hx hZ hown (hw _ (List.mem_of_getElem? (i := 4) rfl)) (hb hby at_174) rfl ?_
  refine g_istore_ (q := 177) (i := 26) (v := (65008 : Int32)) X104 hx hZ e104 A104 rfl (by show 26 < 33; decide) (hb hby at_176) rfl ?_
  intro T108 h108 X108 e108 W108 A108
  replace A108 : IA Z h108 o1 ([(58 : Int32), (65 : Int32), (90 : Int32), (95 : Int32), (97 : Int32), (122 : Int32), (192 : Int32), (214 : Int32), (216 : Int32), (246 : Int32), (248 : Int32), (767 : Int32), (880 : Int32), (893 : Int32), (895 : Int32), (8191 : Int32), (8204 : Int32), (8205 : Int32), (8304 : Int32), (8591 : Int32), (11264 : Int32), (12271 : Int32), (12289 : Int32), (55295 : Int32), (63744 : Int32), (64975 : Int32), (65008 : Int32), (0 : Int32), (0 : Int32), (0 : Int32), (0 : Int32), (0 : Int32), (0 : Int32)] : List Int32) := A108
  have N110 := Fr.snoc X108 N106 g2
  have Z111 : n0 ≤ h108.size := Nat.le_trans Z107 (Nat.le_of_eq W108.size.symm)
  refine g_dup (q := 178) X108.here hx (hb hby at_177) rfl rfl ?_
  refine g_bipush (q := 180) (v := (27 : Int32)) X108.here hx (hb hby at_178) rfl rfl ?_
  refine g_ldcI (q := 182) X108 hx hZ hown (hw _ (List.mem_of_getElem? (i := 5) rfl)) (hb hby at_180) rfl ?_
  refine g_istore_ (q := 183) (i := 27) (v := (65533 : Int32)) X108 hx hZ e108 A108 rfl (by show 27 < 33; decide) (hb hby at_182) rfl ?_
  intro T112 h112 X112 e112 W112 A112
  replace A112 : IA Z h112 o1 ([(58 : Int32), (65 : Int32), (90 : Int32), (95 : Int32), (97 : Int32), (122 : Int32), (192 : Int32), (214 : Int32), (216 : Int32), (246 : Int32), (248 : Int32), (767 : Int32), (880 : Int32), (893 : Int32), (895 : Int32), (8191 : Int32), (8204 : Int32), (8205 : Int32), (8304 : Int32), (8591 : Int32), (11264 : Int32), (12271 : Int32), (12289 : Int32), (55295 : Int32), (63744 : Int32), (64975 : Int32), (65008 : Int32), (65533 : Int32), (0 : Int32), (0 : Int32), (0 : Int32), (0 : Int32), (0 : Int32)] : List Int32) := A112
  have N114 := Fr.snoc X112 N110 g2
  have Z115 : n0 ≤ h112.size := Nat.le_trans Z111 (Nat.le_of_eq W112.size.symm)
  refine g_dup (q := 184) X112.here hx (hb hby at_183) rfl rfl ?_
  refine g_bipush (q := 186) (v := (28 : Int32)) X112.here hx (hb hby at_184) rfl rfl ?_
  refine g_ldcI (q := 188) X112 hx hZ hown (hw _ (List.mem_of_getElem? (i := 6) rfl)) (hb hby at_186) rfl ?_
  refine g_istore_ (q := 189) (i := 28) (v := (65536 : Int32)) X112 hx hZ e112 A112 rfl (by show 28 < 33; decide) (hb hby at_188) rfl ?_
  intro T116 h116 X116 e116 W116 A116
  replace A116 : IA Z h116 o1 ([(58 : Int32), (65 : Int32), (90 : Int32), (95 : Int32), (97 : Int32), (122 : Int32), (192 : Int32), (214 : Int32), (216 : Int32), (246 : Int32), (248 : Int32), (767 : Int32), (880 : Int32), (893 : Int32), (895 : Int32), (8191 : Int32), (8204 : Int32), (8205 : Int32), (8304 : Int32), (8591 : Int32), (11264 : Int32), (12271 : Int32), (12289 : Int32), (55295 : Int32), (63744 : Int32), (64975 : Int32), (65008 : Int32), (65533 : Int32), (65536 : Int32), (0 : Int32), (0 : Int32), (0 : Int32), (0 : Int32)] : List Int32) := A116
  have N118 := Fr.snoc X116 N114 g2
  have Z119 : n0 ≤ h116.size := Nat.le_trans Z115 (Nat.le_of_eq W116.size.symm)
  refine g_dup (q := 190) X116.here hx (hb hby at_189) rfl rfl ?_
  refine g_bipush (q := 192) (v := (29 : Int32)) X116.here hx (hb hby at_190) rfl rfl ?_
  refine g_ldcI (q := 194) X116 hx hZ hown (hw _ (List.mem_of_getElem? (i := 7) rfl)) (hb hby at_192) rfl ?_
  refine g_istore_ (q := 195) (i := 29) (v := (983039 : Int32)) X116 hx hZ e116 A116 rfl (by show 29 < 33; decide) (hb hby at_194) rfl ?_
  intro T120 h120 X120 e120 W120 A120
  replace A120 : IA Z h120 o1 ([(58 : Int32), (65 : Int32), (90 : Int32), (95 : Int32), (97 : Int32), (122 : Int32), (192 : Int32), (214 : Int32), (216 : Int32), (246 : Int32), (248 : Int32), (767 : Int32), (880 : Int32), (893 : Int32), (895 : Int32), (8191 : Int32), (8204 : Int32), (8205 : Int32), (8304 : Int32), (8591 : Int32), (11264 : Int32), (12271 : Int32), (12289 : Int32), (55295 : Int32), (63744 : Int32), (64975 : Int32), (65008 : Int32), (65533 : Int32), (65536 : Int32), (983039 : Int32), (0 : Int32), (0 : Int32), (0 : Int32)] : List Int32) := A120
  have N122 := Fr.snoc X120 N118 g2
  have Z123 : n0 ≤ h120.size := Nat.le_trans Z119 (Nat.le_of_eq W120.size.symm)
  refine g_dup (q := 196) X120.here hx (hb hby at_195) rfl rfl ?_
  refine g_bipush (q := 198) (v := (30 : Int32)) X120.here hx (hb hby at_196) rfl rfl ?_
  refine g_ldcI (q := 200) X120 hx hZ hown (hw _ (List.mem_of_getElem? (i := 8) rfl)) (hb hby at_198) rfl ?_
  refine g_istore_ (q := 201) (i := 30) (v := (-2147483648 : Int32)) X120 hx hZ e120 A120 rfl (by show 30 < 33; decide) (hb hby at_200) rfl ?_
  intro T124 h124 X124 e124 W124 A124
  replace A124 : IA Z h124 o1 ([(58 : Int32), (65 : Int32), (90 : Int32), (95 : Int32), (97 : Int32), (122 : Int32), (192 : Int32), (214 : Int32), (216 : Int32), (246 : Int32), (248 : Int32), (767 : Int32), (880 : Int32), (893 : Int32), (895 : Int32), (8191 : Int32), (8204 : Int32), (8205 : Int32), (8304 : Int32), (8591 : Int32), (11264 : Int32), (12271 : Int32), (12289 : Int32), (55295 : Int32), (63744 : Int32), (64975 : Int32), (65008 : Int32), (65533 : Int32), (65536 : Int32), (983039 : Int32), (-2147483648 : Int32), (0 : Int32), (0 : Int32)] : List Int32) := A124
  have N126 := Fr.snoc X124 N122 g2
  have Z127 : n0 ≤ h124.size := Nat.le_trans Z123 (Nat.le_of_eq W124.size.symm)
  refine g_dup (q := 202) X124.here hx (hb hby at_201) rfl rfl ?_
  refine g_bipush (q := 204) (v := (31 : Int32)) X124.here hx (hb hby at_202) rfl rfl ?_
  refine g_ldcI (q := 206) X124 hx hZ hown (hw _ (List.mem_of_getElem? (i := 9) rfl)) (hb hby at_204) rfl ?_
  refine g_istore_ (q := 207) (i := 31) (v := (2147483647 : Int32)) X124 hx hZ e124 A124 rfl (by show 31 < 33; decide) (hb hby at_206) rfl ?_
  intro T128 h128 X128 e128 W128 A128
  replace A128 : IA Z h128 o1 ([(58 : Int32), (65 : Int32), (90 : Int32), (95 : Int32), (97 : Int32), (122 : Int32), (192 : Int32), (214 : Int32), (216 : Int32), (246 : Int32), (248 : Int32), (767 : Int32), (880 : Int32), (893 : Int32), (895 : Int32), (8191 : Int32), (8204 : Int32), (8205 : Int32), (8304 : Int32), (8591 : Int32), (11264 : Int32), (12271 : Int32), (12289 : Int32), (55295 : Int32), (63744 : Int32), (64975 : Int32), (65008 : Int32), (65533 : Int32), (65536 : Int32), (983039 : Int32), (-2147483648 : Int32), (2147483647 : Int32), (0 : Int32)] : List Int32) := A128
  have N130 := Fr.snoc X128 N126 g2
  have Z131 : n0 ≤ h128.size := Nat.le_trans Z127 (Nat.le_of_eq W128.size.symm)
  refine g_dup (q := 208) X128.here hx (hb hby at_207) rfl rfl ?_
  refine g_bipush (q := 210) (v := (32 : Int32)) X128.here hx (hb hby at_208) rfl rfl ?_
  refine g_iconst (q := 211) (v := (0 : Int32)) X128.here hx (hb hby at_210) rfl rfl ?_
  refine g_istore_ (q := 212) (i := 32) (v := (0 : Int32)) X128 hx hZ e128 A128 rfl (by show 32 < 33; decide) (hb hby at_211) rfl ?_
  intro T132 h132 X132 e132 W132 A132
  replace A132 : IA Z h132 o1 ([(58 : Int32), (65 : Int32), (90 : Int32), (95 : Int32), (97 : Int32), (122 : Int32), (192 : Int32), (214 : Int32), (216 : Int32), (246 : Int32), (248 : Int32), (767 : Int32), (880 : Int32), (893 : Int32), (895 : Int32), (8191 : Int32), (8204 : Int32), (8205 : Int32), (8304 : Int32), (8591 : Int32), (11264 : Int32), (12271 : Int32), (12289 : Int32), (55295 : Int32), (63744 : Int32), (64975 : Int32), (65008 : Int32), (65533 : Int32), (65536 : Int32), (983039 : Int32), (-2147483648 : Int32), (2147483647 : Int32), (0 : Int32)] : List Int32) := A132
  have N134 := Fr.snoc X132 N130 g2
  have Z135 : n0 ≤ h132.size := Nat.le_trans Z131 (Nat.le_of_eq W132.size.symm)
  refine g_astoreN (q := 213) (L' := #[.val (.int a), .val (.int b), .val (.int d), .val (.ref o1), .unset, .unset, .unset]) X132.here hx (hb hby at_212) rfl rfl rfl ?_
  refine g_aloadN (q := 214) X132.here hx (hb hby at_213) rfl rfl rfl ?_
  refine g_iloadN (q := 215) X132.here hx (hb hby at_214) rfl rfl ?_
  refine g_ldcI (q := 217) X132 hx hZ hown (hw _ (List.mem_of_getElem? (i := 9) rfl)) (hb hby at_215) rfl ?_
  refine g_iand (q := 218) X132.here hx (hb hby at_217) rfl ?_
  refine g_aloadN (q := 219) X132.here hx (hb hby at_218) rfl rfl rfl ?_
  refine g_alen (q := 220) (v := (33 : Int32)) X132 hx hZ e132 A132 rfl (hb hby at_219) rfl ?_
  refine g_irem (q := 221) X132.here hx (hb hby at_220) (by decide) rfl ?_
  obtain ⟨u136, hu136⟩ : ∃ z, ([(58 : Int32), (65 : Int32), (90 : Int32), (95 : Int32), (97 : Int32), (122 : Int32), (192 : Int32), (214 : Int32), (216 : Int32), (246 : Int32), (248 : Int32), (767 : Int32), (880 : Int32), (893 : Int32), (895 : Int32), (8191 : Int32), (8204 : Int32), (8205 : Int32), (8304 : Int32), (8591 : Int32), (11264 : Int32), (12271 : Int32), (12289 : Int32), (55295 : Int32), (63744 : Int32), (64975 : Int32), (65008 : Int32), (65533 : Int32), (65536 : Int32), (983039 : Int32), (-2147483648 : Int32), (2147483647 : Int32), (0 : Int32)] : List Int32)[((b &&& (2147483647 : Int32)) % (33 : Int32)).toInt.toNat]? = some z := ⟨_, List.getElem?_eq_getElem (by show ((b &&& (2147483647 : Int32)) % (33 : Int32)).toInt.toNat < 33; have f3 := rng32 b; (try simp only [Int32.reduceToInt, Int64.reduceToInt] at f3); have f4 := rng32 (b &&& (2147483647 : Int32)); (try simp only [Int32.reduceToInt, Int64.reduceToInt] at f4); have f5 := c_mask b (2147483647 : Int32) 31 (by decide) (by decide); (try simp only [Int32.reduceToInt, Int64.reduceToInt] at f5); (try have f5e : (b &&& (2147483647 : Int32)).toInt = b.toInt ∨ (b &&& (2147483647 : Int32)).toInt = b.toInt + 2147483648 := (by omega)); have f6 := rng32 ((b &&& (2147483647 : Int32)) % (33 : Int32)); (try simp only [Int32.reduceToInt, Int64.reduceToInt] at f6); have f7 := c_irem (b &&& (2147483647 : Int32)) (33 : Int32) 33 (by decide); (try simp only [Int32.reduceToInt, Int64.reduceToInt] at f7); (try have f7e : ((b &&& (2147483647 : Int32)) % (33 : Int32)).toInt = (b &&& (2147483647 : Int32)).toInt % 33 := (by omega)); (try simp only [Int32.reduceToInt, Int64.reduceToInt, and_true, true_and, or_true, true_or]); (first | done | omega))⟩
  refine g_iload_ (q := 222) (i := ((b &&& (2147483647 : Int32)) % (33 : Int32)).toInt.toNat) (v := u136) X132 hx hZ e132 A132 (by have f3 := rng32 b; (try simp only [Int32.reduceToInt, Int64.reduceToInt] at f3); have f4 := rng32 (b &&& (2147483647 : Int32)); (try simp only [Int32.reduceToInt, Int64.reduceToInt] at f4); have f5 := c_mask b (2147483647 : Int32) 31 (by decide) (by decide); (try simp only [Int32.reduceToInt, Int64.reduceToInt] at f5); (try have f5e : (b &&& (2147483647 : Int32)).toInt = b.toInt ∨ (b &&& (2147483647 : Int32)).toInt = b.toInt + 2147483648 := (by omega)); have f6 := rng32 ((b &&& (2147483647 : Int32)) % (33 : Int32)); (try simp only [Int32.reduceToInt, Int64.reduceToInt] at f6); have f7 := c_irem (b &&& (2147483647 : Int32)) (33 : Int32) 33 (by decide); (try simp only [Int32.reduceToInt, Int64.reduceToInt] at f7); (try have f7e : ((b &&& (2147483647 : Int32)) % (33 : Int32)).toInt = (b &&& (2147483647 : Int32)).toInt % 33 := (by omega)); (try simp only [Int32.reduceToInt, Int64.reduceToInt, and_true, true_and, or_true, true_or]); (first | done | omega)) hu136 (hb hby at_221) rfl ?_
  refine g_iloadN (q := 223) X132.here hx (hb hby at_222) rfl rfl ?_
  refine g_ldcI (q := 225) X132 hx hZ hown (hw _ (List.mem_of_getElem? (i := 9) rfl)) (hb hby at_223) rfl ?_
  refine g_iand (q := 226) X132.here hx (hb hby at_225) rfl ?_
  refine g_iconst (q := 227) (v := (3 : Int32)) X132.here hx (hb hby at_226) rfl rfl ?_
  refine g_irem (q := 228) X132.here hx (hb hby at_227) (by decide) rfl ?_
  refine g_iadd (q := 229) X132.here hx (hb hby at_228) rfl ?_
  refine g_iconst (q := 230) (v := (1 : Int32)) X132.here hx (hb hby at_229) rfl rfl ?_
  refine g_isub (q := 231) X132.here hx (hb hby at_230) rfl ?_
  generalize hv_v137 : ((u136 + ((d &&& (2147483647 : Int32)) % (3 : Int32))) - (1 : Int32)) = v137
  refine g_istore (q := 233) (L' := #[.val (.int a), .val (.int b), .val (.int d), .val (.ref o1), .val (.int v137), .unset, .unset]) X132.here hx (hb hby at_231) rfl rfl ?_
  refine g_iloadN (q := 234) X132.here hx (hb hby at_233) rfl rfl ?_
  refine g_callSP (q := 237) X132 hx hZ hown (hw _ (List.mem_of_getElem? (i := 10) rfl)) (hw _ (List.mem_of_getElem? (i := 11) rfl)) (hw _ (List.mem_of_getElem? (i := 12) rfl)) (hw _ (List.mem_of_getElem? (i := 13) rfl)) (by decide) (rm1 l Z a0 hw [] a h132 n0 Z135) (argsL := [.int a]) (rest := []) pd_0 rfl rfl rfl (hb hby at_234) rfl (by rw [hml]; rfl) e132 (by decide) (W := 0) rfl (by decide) rfl rfl (by decide) (by decide) ?_
  intro T138 X138 e138
  refine g_iloadN (q := 238) X138.here hx (hb hby at_237) rfl rfl ?_
  refine g_callSP (q := 241) X138 hx hZ hown (hw _ (List.mem_of_getElem? (i := 17) rfl)) (hw _ (List.mem_of_getElem? (i := 18) rfl)) (hw _ (List.mem_of_getElem? (i := 19) rfl)) (hw _ (List.mem_of_getElem? (i := 20) rfl)) (by decide) (rm2 l Z a0 hw [] a h132 n0 Z135) (argsL := [.int a]) (rest := [.int (b2i (decide ((58 ≤ a.toInt ∧ a.toInt ≤ 58) ∨ (65 ≤ a.toInt ∧ a.toInt ≤ 90) ∨ (95 ≤ a.toInt ∧ a.toInt ≤ 95) ∨ (97 ≤ a.toInt ∧ a.toInt ≤ 122) ∨ (192 ≤ a.toInt ∧ a.toInt ≤ 214) ∨ (216 ≤ a.toInt ∧ a.toInt ≤ 246) ∨ (248 ≤ a.toInt ∧ a.toInt ≤ 767) ∨ (880 ≤ a.toInt ∧ a.toInt ≤ 893) ∨ (895 ≤ a.toInt ∧ a.toInt ≤ 8191) ∨ (8204 ≤ a.toInt ∧ a.toInt ≤ 8205) ∨ (8304 ≤ a.toInt ∧ a.toInt ≤ 8591) ∨ (11264 ≤ a.toInt ∧ a.toInt ≤ 12271) ∨ (12289 ≤ a.toInt ∧ a.toInt ≤ 55295) ∨ (63744 ≤ a.toInt ∧ a.toInt ≤ 64975) ∨ (65008 ≤ a.toInt ∧ a.toInt ≤ 65533) ∨ (65536 ≤ a.toInt ∧ a.toInt ≤ 983039))))]) pd_0 rfl rfl rfl (hb hby at_238) rfl (by rw [hml]; rfl) e138 (by decide) (W := 1) rfl (by decide) rfl rfl (by decide) (by decide) ?_
  intro T139 X139 e139
  refine g_selB_ne (q := 249) X139.here hx (hb hby at_241) (by decide) (by decide) rfl (hb hby at_248) (hb hby at_244) (hb hby at_245) rfl (by decide) (by decide) rfl ?_
  refine g_selBB_ne (q := 257) X139.here hx (hb hby at_249) (by decide) (by decide) rfl (hb hby at_256) (hb hby at_252) (hb hby at_253) rfl (by decide) (by decide) rfl ?_
  refine g_istore (q := 259) (L' := #[.val (.int a), .val (.int b), .val (.int d), .val (.ref o1), .val (.int v137), .val (.int (b2i ((decide ((58 ≤ a.toInt ∧ a.toInt ≤ 58) ∨ (65 ≤ a.toInt ∧ a.toInt ≤ 90) ∨ (95 ≤ a.toInt ∧ a.toInt ≤ 95) ∨ (97 ≤ a.toInt ∧ a.toInt ≤ 122) ∨ (192 ≤ a.toInt ∧ a.toInt ≤ 214) ∨ (216 ≤ a.toInt ∧ a.toInt ≤ 246) ∨ (248 ≤ a.toInt ∧ a.toInt ≤ 767) ∨ (880 ≤ a.toInt ∧ a.toInt ≤ 893) ∨ (895 ≤ a.toInt ∧ a.toInt ≤ 8191) ∨ (8204 ≤ a.toInt ∧ a.toInt ≤ 8205) ∨ (8304 ≤ a.toInt ∧ a.toInt ≤ 8591) ∨ (11264 ≤ a.toInt ∧ a.toInt ≤ 12271) ∨ (12289 ≤ a.toInt ∧ a.toInt ≤ 55295) ∨ (63744 ≤ a.toInt ∧ a.toInt ≤ 64975) ∨ (65008 ≤ a.toInt ∧ a.toInt ≤ 65533) ∨ (65536 ≤ a.toInt ∧ a.toInt ≤ 983039))) == (!(decide (¬ ((58 ≤ a.toInt ∧ a.toInt ≤ 58) ∨ (65 ≤ a.toInt ∧ a.toInt ≤ 90) ∨ (95 ≤ a.toInt ∧ a.toInt ≤ 95) ∨ (97 ≤ a.toInt ∧ a.toInt ≤ 122) ∨ (192 ≤ a.toInt ∧ a.toInt ≤ 214) ∨ (216 ≤ a.toInt ∧ a.toInt ≤ 246) ∨ (248 ≤ a.toInt ∧ a.toInt ≤ 767) ∨ (880 ≤ a.toInt ∧ a.toInt ≤ 893) ∨ (895 ≤ a.toInt ∧ a.toInt ≤ 8191) ∨ (8204 ≤ a.toInt ∧ a.toInt ≤ 8205) ∨ (8304 ≤ a.toInt ∧ a.toInt ≤ 8591) ∨ (11264 ≤ a.toInt ∧ a.toInt ≤ 12271) ∨ (12289 ≤ a.toInt ∧ a.toInt ≤ 55295) ∨ (63744 ≤ a.toInt ∧ a.toInt ≤ 64975) ∨ (65008 ≤ a.toInt ∧ a.toInt ≤ 65533) ∨ (65536 ≤ a.toInt ∧ a.toInt ≤ 983039)))))))), .unset]) X139.here hx (hb hby at_257) rfl rfl ?_
  refine g_iload (q := 261) X139.here hx (hb hby at_259) rfl rfl ?_
  refine g_callSP (q := 264) X139 hx hZ hown (hw _ (List.mem_of_getElem? (i := 10) rfl)) (hw _ (List.mem_of_getElem? (i := 11) rfl)) (hw _ (List.mem_of_getElem? (i := 12) rfl)) (hw _ (List.mem_of_getElem? (i := 13) rfl)) (by decide) (rm1 l Z a0 hw [] v137 h132 n0 Z135) (argsL := [.int v137]) (rest := []) pd_0 rfl rfl rfl (hb hby at_261) rfl (by rw [hml]; rfl) e139 (by decide) (W := 0) rfl (by decide) rfl rfl (by decide) (by decide) ?_
  intro T140 X140 e140
  refine g_iload (q := 266) X140.here hx (hb hby at_264) rfl rfl ?_
  refine g_callSP (q := 269) X140 hx hZ hown (hw _ (List.mem_of_getElem? (i := 17) rfl)) (hw _ (List.mem_of_getElem? (i := 18) rfl)) (hw _ (List.mem_of_getElem? (i := 19) rfl)) (hw _ (List.mem_of_getElem? (i := 20) rfl)) (by decide) (rm2 l Z a0 hw [] v137 h132 n0 Z135) (argsL := [.int v137]) (rest := [.int (b2i (decide ((58 ≤ v137.toInt ∧ v137.toInt ≤ 58) ∨ (65 ≤ v137.toInt ∧ v137.toInt ≤ 90) ∨ (95 ≤ v137.toInt ∧ v137.toInt ≤ 95) ∨ (97 ≤ v137.toInt ∧ v137.toInt ≤ 122) ∨ (192 ≤ v137.toInt ∧ v137.toInt ≤ 214) ∨ (216 ≤ v137.toInt ∧ v137.toInt ≤ 246) ∨ (248 ≤ v137.toInt ∧ v137.toInt ≤ 767) ∨ (880 ≤ v137.toInt ∧ v137.toInt ≤ 893) ∨ (895 ≤ v137.toInt ∧ v137.toInt ≤ 8191) ∨ (8204 ≤ v137.toInt ∧ v137.toInt ≤ 8205) ∨ (8304 ≤ v137.toInt ∧ v137.toInt ≤ 8591) ∨ (11264 ≤ v137.toInt ∧ v137.toInt ≤ 12271) ∨ (12289 ≤ v137.toInt ∧ v137.toInt ≤ 55295) ∨ (63744 ≤ v137.toInt ∧ v137.toInt ≤ 64975) ∨ (65008 ≤ v137.toInt ∧ v137.toInt ≤ 65533) ∨ (65536 ≤ v137.toInt ∧ v137.toInt ≤ 983039))))]) pd_0 rfl rfl rfl (hb hby at_266) rfl (by rw [hml]; rfl) e140 (by decide) (W := 1) rfl (by decide) rfl rfl (by decide) (by decide) ?_
  intro T141 X141 e141
  refine g_selB_ne (q := 277) X141.here hx (hb hby at_269) (by decide) (by decide) rfl (hb hby at_276) (hb hby at_272) (hb hby at_273) rfl (by decide) (by decide) rfl ?_
  refine g_selBB_ne (q := 285) X141.here hx (hb hby at_277) (by decide) (by decide) rfl (hb hby at_284) (hb hby at_280) (hb hby at_281) rfl (by decide) (by decide) rfl ?_
  refine g_istore (q := 287) (L' := #[.val (.int a), .val (.int b), .val (.int d), .val (.ref o1), .val (.int v137), .val (.int (b2i ((decide ((58 ≤ a.toInt ∧ a.toInt ≤ 58) ∨ (65 ≤ a.toInt ∧ a.toInt ≤ 90) ∨ (95 ≤ a.toInt ∧ a.toInt ≤ 95) ∨ (97 ≤ a.toInt ∧ a.toInt ≤ 122) ∨ (192 ≤ a.toInt ∧ a.toInt ≤ 214) ∨ (216 ≤ a.toInt ∧ a.toInt ≤ 246) ∨ (248 ≤ a.toInt ∧ a.toInt ≤ 767) ∨ (880 ≤ a.toInt ∧ a.toInt ≤ 893) ∨ (895 ≤ a.toInt ∧ a.toInt ≤ 8191) ∨ (8204 ≤ a.toInt ∧ a.toInt ≤ 8205) ∨ (8304 ≤ a.toInt ∧ a.toInt ≤ 8591) ∨ (11264 ≤ a.toInt ∧ a.toInt ≤ 12271) ∨ (12289 ≤ a.toInt ∧ a.toInt ≤ 55295) ∨ (63744 ≤ a.toInt ∧ a.toInt ≤ 64975) ∨ (65008 ≤ a.toInt ∧ a.toInt ≤ 65533) ∨ (65536 ≤ a.toInt ∧ a.toInt ≤ 983039))) == (!(decide (¬ ((58 ≤ a.toInt ∧ a.toInt ≤ 58) ∨ (65 ≤ a.toInt ∧ a.toInt ≤ 90) ∨ (95 ≤ a.toInt ∧ a.toInt ≤ 95) ∨ (97 ≤ a.toInt ∧ a.toInt ≤ 122) ∨ (192 ≤ a.toInt ∧ a.toInt ≤ 214) ∨ (216 ≤ a.toInt ∧ a.toInt ≤ 246) ∨ (248 ≤ a.toInt ∧ a.toInt ≤ 767) ∨ (880 ≤ a.toInt ∧ a.toInt ≤ 893) ∨ (895 ≤ a.toInt ∧ a.toInt ≤ 8191) ∨ (8204 ≤ a.toInt ∧ a.toInt ≤ 8205) ∨ (8304 ≤ a.toInt ∧ a.toInt ≤ 8591) ∨ (11264 ≤ a.toInt ∧ a.toInt ≤ 12271) ∨ (12289 ≤ a.toInt ∧ a.toInt ≤ 55295) ∨ (63744 ≤ a.toInt ∧ a.toInt ≤ 64975) ∨ (65008 ≤ a.toInt ∧ a.toInt ≤ 65533) ∨ (65536 ≤ a.toInt ∧ a.toInt ≤ 983039)))))))), .val (.int (b2i ((decide ((58 ≤ v137.toInt ∧ v137.toInt ≤ 58) ∨ (65 ≤ v137.toInt ∧ v137.toInt ≤ 90) ∨ (95 ≤ v137.toInt ∧ v137.toInt ≤ 95) ∨ (97 ≤ v137.toInt ∧ v137.toInt ≤ 122) ∨ (192 ≤ v137.toInt ∧ v137.toInt ≤ 214) ∨ (216 ≤ v137.toInt ∧ v137.toInt ≤ 246) ∨ (248 ≤ v137.toInt ∧ v137.toInt ≤ 767) ∨ (880 ≤ v137.toInt ∧ v137.toInt ≤ 893) ∨ (895 ≤ v137.toInt ∧ v137.toInt ≤ 8191) ∨ (8204 ≤ v137.toInt ∧ v137.toInt ≤ 8205) ∨ (8304 ≤ v137.toInt ∧ v137.toInt ≤ 8591) ∨ (11264 ≤ v137.toInt ∧ v137.toInt ≤ 12271) ∨ (12289 ≤ v137.toInt ∧ v137.toInt ≤ 55295) ∨ (63744 ≤ v137.toInt ∧ v137.toInt ≤ 64975) ∨ (65008 ≤ v137.toInt ∧ v137.toInt ≤ 65533) ∨ (65536 ≤ v137.toInt ∧ v137.toInt ≤ 983039))) == (!(decide (¬ ((58 ≤ v137.toInt ∧ v137.toInt ≤ 58) ∨ (65 ≤ v137.toInt ∧ v137.toInt ≤ 90) ∨ (95 ≤ v137.toInt ∧ v137.toInt ≤ 95) ∨ (97 ≤ v137.toInt ∧ v137.toInt ≤ 122) ∨ (192 ≤ v137.toInt ∧ v137.toInt ≤ 214) ∨ (216 ≤ v137.toInt ∧ v137.toInt ≤ 246) ∨ (248 ≤ v137.toInt ∧ v137.toInt ≤ 767) ∨ (880 ≤ v137.toInt ∧ v137.toInt ≤ 893) ∨ (895 ≤ v137.toInt ∧ v137.toInt ≤ 8191) ∨ (8204 ≤ v137.toInt ∧ v137.toInt ≤ 8205) ∨ (8304 ≤ v137.toInt ∧ v137.toInt ≤ 8591) ∨ (11264 ≤ v137.toInt ∧ v137.toInt ≤ 12271) ∨ (12289 ≤ v137.toInt ∧ v137.toInt ≤ 55295) ∨ (63744 ≤ v137.toInt ∧ v137.toInt ≤ 64975) ∨ (65008 ≤ v137.toInt ∧ v137.toInt ≤ 65533) ∨ (65536 ≤ v137.toInt ∧ v137.toInt ≤ 983039))))))))]) X141.here hx (hb hby at_285) rfl rfl ?_
  refine g_iload (q := 289) X141.here hx (hb hby at_287) rfl rfl ?_
  refine g_ifB_eq (q := 301) (q0 := 292) X141.here hx (hb hby at_289) (by decide) (by decide) rfl ?_ ?_
  · intro c142
    refine g_iconst (q := 302) (v := (0 : Int32)) X141.here hx (hb hby at_301) rfl rfl ?_
    exact g_zreturn (b := false) X141 hx hlk hrt (hb hby at_302) (by decide) (by decide) (by exfalso; rw [own_bb] at c142; cases c142)
  · intro c142
    refine g_iload (q := 294) X141.here hx (hb hby at_292) rfl rfl ?_
    refine g_selB_eq (q := 302) X141.here hx (hb hby at_294) (by decide) (by decide) rfl (hb hby at_301) (hb hby at_297) (hb hby at_298) rfl (by decide) (by decide) rfl ?_
    exact g_zreturn (b := ((decide ((58 ≤ v137.toInt ∧ v137.toInt ≤ 58) ∨ (65 ≤ v137.toInt ∧ v137.toInt ≤ 90) ∨ (95 ≤ v137.toInt ∧ v137.toInt ≤ 95) ∨ (97 ≤ v137.toInt ∧ v137.toInt ≤ 122) ∨ (192 ≤ v137.toInt ∧ v137.toInt ≤ 214) ∨ (216 ≤ v137.toInt ∧ v137.toInt ≤ 246) ∨ (248 ≤ v137.toInt ∧ v137.toInt ≤ 767) ∨ (880 ≤ v137.toInt ∧ v137.toInt ≤ 893) ∨ (895 ≤ v137.toInt ∧ v137.toInt ≤ 8191) ∨ (8204 ≤ v137.toInt ∧ v137.toInt ≤ 8205) ∨ (8304 ≤ v137.toInt ∧ v137.toInt ≤ 8591) ∨ (11264 ≤ v137.toInt ∧ v137.toInt ≤ 12271) ∨ (12289 ≤ v137.toInt ∧ v137.toInt ≤ 55295) ∨ (63744 ≤ v137.toInt ∧ v137.toInt ≤ 64975) ∨ (65008 ≤ v137.toInt ∧ v137.toInt ≤ 65533) ∨ (65536 ≤ v137.toInt ∧ v137.toInt ≤ 983039))) == (!(decide (¬ ((58 ≤ v137.toInt ∧ v137.toInt ≤ 58) ∨ (65 ≤ v137.toInt ∧ v137.toInt ≤ 90) ∨ (95 ≤ v137.toInt ∧ v137.toInt ≤ 95) ∨ (97 ≤ v137.toInt ∧ v137.toInt ≤ 122) ∨ (192 ≤ v137.toInt ∧ v137.toInt ≤ 214) ∨ (216 ≤ v137.toInt ∧ v137.toInt ≤ 246) ∨ (248 ≤ v137.toInt ∧ v137.toInt ≤ 767) ∨ (880 ≤ v137.toInt ∧ v137.toInt ≤ 893) ∨ (895 ≤ v137.toInt ∧ v137.toInt ≤ 8191) ∨ (8204 ≤ v137.toInt ∧ v137.toInt ≤ 8205) ∨ (8304 ≤ v137.toInt ∧ v137.toInt ≤ 8591) ∨ (11264 ≤ v137.toInt ∧ v137.toInt ≤ 12271) ∨ (12289 ≤ v137.toInt ∧ v137.toInt ≤ 55295) ∨ (63744 ≤ v137.toInt ∧ v137.toInt ≤ 64975) ∨ (65008 ≤ v137.toInt ∧ v137.toInt ≤ 65533) ∨ (65536 ≤ v137.toInt ∧ v137.toInt ≤ 983039))))))) X141 hx hlk hrt (hb hby at_302) (by decide) (by decide) ⟨okB own_bb, N134⟩
set_option maxRecDepth 65536 in
set_option maxHeartbeats 40000000 in
theorem comes_1 {Post : Tables → Env → Array Value → State → Outcome → State → Prop} (hpost : ∀ tb e args s v u, (limb_1_1.after args s (.returned v) u = true ∧ limb_1_2.after args s (.returned v) u = true ∧ True) → FrameEnd s (.returned v) u (Jvm.fieldLocs frame_1_writes args s ++ Jvm.arrayLocs frame_1_arrays args s ++ Jvm.staticLocs frame_1_statics s) 16 192 → Post tb e args s (.returned v) u) :
    ArmFor flags0 classFile x code maxLocals ret World_1 tables_1 room_1 Calls_1 rest_1 Pre_1 Post := by
  intro l hfl _ _ p e ha hc hk s m args below hf hA hF happ hP
  obtain ⟨hcalls, hrest, hpre⟩ := hP
  obtain ⟨-, -, -, hnamed, -, -, -, hat⟩ := (Spec.applies_iff hf).mp happ
  obtain ⟨hg, hn⟩ := and_e (Cond.before_iff.mp (show (Jvm.Cond.and given_1 narrow_1).before args s = true from hpre))
  obtain ⟨g1, g2⟩ := and_e hg
  obtain ⟨g3, g4⟩ := and_e g2
  obtain ⟨g5, g6⟩ := and_e g4
  obtain ⟨w0, w1, w2, rfl⟩ : ∃ w0 w1 w2 : Value, args = #[w0, w1, w2] := by
    have hs : args.size = 3 := by simpa [Cond.value, given_1] using g1
    obtain ⟨L⟩ := args
    match L, hs with
    | [w0, w1, w2], _ => exact ⟨w0, w1, w2, rfl⟩
  have hw := fun d (hd : d ∈ tables_1) => atoms_spec (ws := Jvm.Cond.code x code maxLocals ret :: tables_1) hat d (List.mem_cons_of_mem _ hd)
  obtain ⟨i0, ei0⟩ := is_v g3
  obtain rfl : w0 = (.int i0) := Option.some.inj ei0
  obtain ⟨i1, ei1⟩ := is_v g5
  obtain rfl : w1 = (.int i1) := Option.some.inj ei1
  obtain ⟨i2, ei2⟩ := is_v g6
  obtain rfl : w2 = (.int i2) := Option.some.inj ei2
  obtain ⟨n, o, h1, h2, h3, _, L, rfl, ⟨rfl, N⟩, hq⟩ := rm0 l s _ hw tables_1 i0 i1 i2 s.heap s.heap.size (Nat.le_refl _) p e ha hc hk s m _ below hf ((Spec.applies_iff_loose hf).mp happ).1 ⟨rfl, State.Warmed39.refl s, rfl⟩ trivial
  refine ⟨n, _, h1, h2, h3, hpost _ _ _ _ _ _ ⟨Cond.after_iff.mpr rfl, Cond.after_iff.mpr (eq_i res_at (Term.int_eval (1)) rfl), trivial⟩ ⟨hq.1, hq.2.1, (hq.2.2.sift fun y hy => Or.inr (N y hy)).mono (by decide) (by decide)⟩⟩
theorem main_1_1 : Claimed_1_1 := comes_1 fun _ _ _ _ _ _ h hF => ⟨h.1, hF⟩
theorem main_1_2 : Claimed_1_2 := comes_1 fun _ _ _ _ _ _ h hF => ⟨h.2.1, hF⟩
end Jvm.Pilot.@@N@@
namespace Jvm.Pilot.@@N@@
open Jvm Jvm.ClassFile Sem Op Lib Jvm.Free Jvm.Stand Jvm.Pilot.@@N@@.Jvm.D
/-! MADE BY PROGRAM (witnessworld.py) out of the Statement's table words and the real class files: 9 classes; the members and pool entries that the words name. The judged class is class 1, her method 2. -/
namespace start1
open Jvm.ClassFile
def u (s : String) : CpInfo := .utf8 (stringToUtf16 s)
/-- a pool by its gaps: so many unusable entries, then the entry; so many at the end -/
def gap : Nat → List CpInfo → List CpInfo
  | 0, r => r
  | n + 1, r => .unusable :: gap n r
def poolList (es : List (Nat × CpInfo)) (last : Nat) : List CpInfo := es.foldr (fun e r => gap e.1 (e.2 :: r)) (gap last [])
def pool (es : List (Nat × CpInfo)) (last : Nat) : Array CpInfo := ⟨poolList es last⟩
def fileOf (pool : Array CpInfo) (this : Nat) (attrs : Array Attribute := #[]) (ms : Array MethodInfo := #[]) (fl : Nat := 33) (sup : Nat := 0) (ifs : Array Nat := #[]) (fds : Array FieldInfo := #[]) : ClassFile where
  minorVersion := 0
  majorVersion := 65
  constantPool := pool
  accessFlags := fl
  thisClass := this
  superClass := sup
  interfaces := ifs
  fields := fds
  methods := ms
  attributes := attrs
def plain (name : String) (sup : Option ClassId) : Class where
  name := name
  kind := .ordinary
  loader := none
  accessFlags := 33
  super := sup
  interfaces := #[]
  cf := none
  fields := #[]
  methods := #[]
  instanceTypes := #[]
  staticTypes := #[]
  resolved := #[]
  callSites := []
  init := .initialized
  statics := none
  mirror := none

def pool0 : Array CpInfo := pool [(5, u "<init>"), (0, u "()V"), (1, .class_ 10), (1, u "java/lang/Object")] 113

def k0m0 : Method := { name := "<init>", desc := "()V", sig := { parameters := [], returnType := none }, accessFlags := 1, code := none }
/-- java/lang/Object -/
def k0 : Class := { plain "java/lang/Object" none with
  accessFlags := 33
  interfaces := #[]
  cf := some (fileOf pool0 8 #[] #[{ accessFlags := 1, nameIndex := 5, descriptorIndex := 6, attributes := #[] }] 33 0 #[] #[])
  fields := #[]
  methods := #[k0m0]
  instanceTypes := #[]
  staticTypes := #[]
  resolved := Array.replicate 124 none
  statics := none }

def pool1 : Array CpInfo := pool [(2, .class_ 4), (1, u "java/lang/Object"), (0, u "<init>"), (0, u "()V"), (0, .integer 55296), (0, .integer 63743), (0, .integer 64976), (0, .integer 65007), (0, .integer 65534), (0, .integer 65535), (0, .integer 983040), (0, .integer 55295), (0, .integer 63744), (0, .integer 64975), (0, .integer 65008), (0, .integer 65533), (0, .integer 65536), (0, .integer 983039), (2, .integer 2147483648), (0, .integer 2147483647), (0, .methodref 26 27), (0, .class_ 28), (0, .nameAndType 29 30), (0, u site_234.cls), (0, u "isNameStartCharacter"), (0, u "(I)Z"), (0, .methodref 32 33), (0, .class_ 34), (0, .nameAndType 35 30), (0, u x.cls), (0, u "inGap"), (3, u "law"), (0, u "(III)Z")] 4

def k1m0 : Method := { name := "<init>", desc := "()V", sig := { parameters := [], returnType := none }, accessFlags := 2, code := none }
def k1c1 : Code := { maxStack := 2, maxLocals := 1, code := method_2_code, exceptionTable := #[], attributes := #[] }
def k1m1 : Method := { name := "inGap", desc := "(I)Z", sig := { parameters := [.int], returnType := some .boolean }, accessFlags := 10, code := some k1c1 }
def k1c2 : Code := { maxStack := 4, maxLocals := 7, code := code, exceptionTable := #[], attributes := #[] }
def k1m2 : Method := { name := "law", desc := "(III)Z", sig := { parameters := [.int, .int, .int], returnType := some .boolean }, accessFlags := 9, code := some k1c2 }
def k1 : Class := { plain x.cls (some 0) with
  accessFlags := 49
  interfaces := #[]
  cf := some (fileOf pool1 32 #[] #[{ accessFlags := 2, nameIndex := 5, descriptorIndex := 6, attributes := #[] }, { accessFlags := 10, nameIndex := 35, descriptorIndex := 30, attributes := #[] }, { accessFlags := 9, nameIndex := 39, descriptorIndex := 40, attributes := #[] }] 49 2 #[] #[])
  fields := #[]
  methods := #[k1m0, k1m1, k1m2]
  instanceTypes := #[]
  staticTypes := #[]
  resolved := Array.replicate 45 none
  statics := none }

def pool2 : Array CpInfo := pool [(2, .class_ 4), (1, u "java/lang/Object"), (0, u "<init>"), (0, u "()V"), (11, .class_ 20), (1, u site_234.cls), (1, u "(I)Z"), (8, .integer 55295), (1, .integer 65533), (0, .integer 65536), (23, u "isNameStartCharacter"), (8, .integer 63744), (0, .integer 64975), (0, .integer 65008), (0, .integer 983039)] 29

def k2m0 : Method := { name := "<init>", desc := "()V", sig := { parameters := [], returnType := none }, accessFlags := 2, code := none }
def k2c1 : Code := { maxStack := 2, maxLocals := 1, code := prog_39_method_10_code, exceptionTable := #[], attributes := #[] }
def k2m1 : Method := { name := "isNameStartCharacter", desc := "(I)Z", sig := { parameters := [.int], returnType := some .boolean }, accessFlags := 8, code := some k2c1 }
def k2 : Class := { plain site_234.cls (some 0) with
  accessFlags := 32
  interfaces := #[]
  cf := some (fileOf pool2 18 #[] #[{ accessFlags := 2, nameIndex := 5, descriptorIndex := 6, attributes := #[] }, { accessFlags := 8, nameIndex := 58, descriptorIndex := 22, attributes := #[] }] 32 2 #[] #[])
  fields := #[]
  methods := #[k2m0, k2m1]
  instanceTypes := #[]
  staticTypes := #[]
  resolved := Array.replicate 100 none
  statics := none }

def pool3 : Array CpInfo := pool [(1, u "java/lang/Cloneable"), (0, .class_ 1), (0, u "java/lang/Object"), (0, .class_ 3)] 3

/-- java/lang/Cloneable -/
def k3 : Class := { plain "java/lang/Cloneable" (some 0) with
  accessFlags := 1537
  interfaces := #[]
  cf := some (fileOf pool3 2 #[] #[] 1537 4 #[] #[])
  fields := #[]
  methods := #[]
  instanceTypes := #[]
  staticTypes := #[]
  resolved := Array.replicate 8 none
  statics := none }

def pool4 : Array CpInfo := pool [(1, u "java/io/Serializable"), (0, .class_ 1), (0, u "java/lang/Object"), (0, .class_ 3)] 3

/-- java/io/Serializable -/
def k4 : Class := { plain "java/io/Serializable" (some 0) with
  accessFlags := 1537
  interfaces := #[]
  cf := some (fileOf pool4 2 #[] #[] 1537 4 #[] #[])
  fields := #[]
  methods := #[]
  instanceTypes := #[]
  staticTypes := #[]
  resolved := Array.replicate 8 none
  statics := none }

/-- the primitive byte -/
def k5 : Class := { plain "byte" none with kind := .primitive 'B', accessFlags := 0x411 }
/-- [B -/
def k6 : Class := { plain "[B" (some 0) with kind := .array 5 .byte, interfaces := #[3, 4], accessFlags := 1041 }

/-- the primitive int -/
def k7 : Class := { plain "int" none with kind := .primitive 'I', accessFlags := 0x411 }
/-- [I -/
def k8 : Class := { plain "[I" (some 0) with kind := .array 7 .int, interfaces := #[3, 4], accessFlags := 1041 }

def heap : Heap := #[]
def classes : Array Class := #[k0, k1, k2, k3, k4, k5, k6, k7, k8]
def interned : List (Array UInt16 × Addr) := []
def slotsUsed : Nat := 0
def theMethod : MethodId := ⟨1, 2⟩
def args0 : Array Value := #[.int 5, .int 6, .int 7]
def aboutOver (below : List Frame) : State where
  vm := { classes := classes, interned := interned.toArray }
  heap := heap
  slotsUsed := slotsUsed
  threads := #[{ frames := .invoking theMethod args0 :: below }]
def below0 : List Frame := [.native { method := ⟨0, 0⟩, args := #[] }]
def about1 : State := aboutOver below0
def p0 : Program := .bare "" "" ""
def e0 : Env := launch0.env 0 0 0
theorem w_frames : about1.frames = Frame.invoking theMethod args0 :: below0 := rfl
set_option maxRecDepth 65536 in
theorem w_args : argsFit about1.vm theMethod args0 = true := by decide +kernel
set_option maxRecDepth 65536 in
theorem w_heap : heapFits about1 = true := by decide +kernel
set_option maxRecDepth 65536 in
theorem w_runnable : about1.curStatus? = some .runnable := by decide +kernel
set_option maxRecDepth 65536 in
theorem w_alone : about1.alone = true := by decide +kernel
set_option maxRecDepth 65536 in
theorem w_named : about1.methodNamed? x = some theMethod := by decide +kernel
set_option maxRecDepth 65536 in
theorem w_hears : about1.hears theMethod below0 = true := by decide +kernel
set_option maxRecDepth 65536 in
theorem w_ripe : about1.ripe theMethod args0 below0 = true := by decide +kernel
theorem w_running : about1.status = .running := rfl
set_option maxRecDepth 65536 in
theorem w_room : about1.hasRoom e0.platform room_1 = true :=
  launch0.hasRoom_least _ room_1 (by decide +kernel) (by decide +kernel) (by decide +kernel) (by decide +kernel) (by decide +kernel) (by decide +kernel)
theorem allAtoms_all (ts : List Jvm.Cond) (a : Array Jvm.Value) (st : Jvm.State) : (allAtoms ts).before a st = ts.all (fun c => c.before a st) := by
  induction ts with
  | nil => rfl
  | cons c t ih =>
    show (Jvm.Cond.and c (allAtoms t)).before a st = _
    rw [Jvm.Cond.before_and, ih, List.all_cons]
def words1 : List Jvm.Cond := Jvm.Cond.code x code maxLocals ret :: tables_1
/-- a 'code' word, met by the world's own term for the bytes: nothing is compared byte by byte -/
theorem code_word {y : MethodName} {bytes : ByteArray} {mx : Nat} {rt : Option FieldType} {a : Array Value} {s : State} {m : MethodId} {meth : Method} {c : Code} (h1 : s.methodNamed? y = some m) (h2 : s.vm.method? m = some meth) (h3 : meth.code = some c) (h4 : c.code = bytes)
    (h5 : (c.maxLocals == mx && c.exceptionTable.isEmpty && decide (c.maxStack ≤ mostOperands) && decide (meth.sig.returnType = rt) && !meth.locks && decide (parseMethodDescriptor y.desc = some meth.sig)) = true) : (Jvm.Cond.code y bytes mx rt).before a s = true := by
  simp only [Bool.and_eq_true, beq_iff_eq, Bool.not_eq_true', decide_eq_true_eq] at h5
  obtain ⟨⟨⟨⟨⟨g1, g2⟩, g3⟩, g4⟩, g5⟩, g6⟩ := h5
  simp [Cond.before, Cond.holds, Cond.value, h1, h2, h3, h4, g1, g2, g3, g4, g5, g6]
def isCode : Jvm.Cond → Bool
  | .code _ _ _ _ => true
  | _ => false
theorem all_split {L : List Jvm.Cond} {P : Jvm.Cond → Bool} (h1 : L.all (fun c => isCode c || P c) = true) (h2 : ∀ c ∈ L.filter isCode, P c = true) : L.all P = true := by
  refine List.all_eq_true.mpr fun c hc => ?_
  have h := List.all_eq_true.mp h1 c hc
  rcases Bool.eq_false_or_eq_true (isCode c) with hi | hi
  · exact h2 c (List.mem_filter.mpr ⟨hc, hi⟩)
  · simpa [hi] using h
set_option maxRecDepth 65536 in
theorem w_c0 : (Jvm.Cond.code x code maxLocals ret).before args0 about1 = true := code_word (m := ⟨1, 2⟩) (meth := k1m2) (c := k1c2) (by decide +kernel) rfl rfl rfl (by decide +kernel)
set_option maxRecDepth 65536 in
theorem w_c1 : (Jvm.Cond.code site_234 prog_39_method_10_code (1 : Nat) (Option.some Jvm.ClassFile.FieldType.boolean)).before args0 about1 = true := code_word (m := ⟨2, 1⟩) (meth := k2m1) (c := k2c1) (by decide +kernel) rfl rfl rfl (by decide +kernel)
set_option maxRecDepth 65536 in
theorem w_c2 : (Jvm.Cond.code method_2 method_2_code (1 : Nat) (Option.some Jvm.ClassFile.FieldType.boolean)).before args0 about1 = true := code_word (m := ⟨1, 1⟩) (meth := k1m1) (c := k1c1) (by decide +kernel) rfl rfl rfl (by decide +kernel)
def codes1 : List Jvm.Cond := [Jvm.Cond.code x code maxLocals ret, Jvm.Cond.code site_234 prog_39_method_10_code (1 : Nat) (Option.some Jvm.ClassFile.FieldType.boolean), Jvm.Cond.code method_2 method_2_code (1 : Nat) (Option.some Jvm.ClassFile.FieldType.boolean)]
set_option maxRecDepth 65536 in
theorem codes_eq : words1.filter isCode = codes1 := rfl
theorem w_codes : ∀ c ∈ words1.filter isCode, c.before args0 about1 = true := by
  rw [codes_eq]
  intro c hc
  simp only [codes1, List.mem_cons, List.not_mem_nil, or_false] at hc
  rcases hc with rfl | rfl | rfl
  · exact w_c0
  · exact w_c1
  · exact w_c2
set_option maxRecDepth 65536 in
theorem w_t1 : (words1.take 24).all (fun c => isCode c || c.before args0 about1) = true := by decide +kernel
set_option maxRecDepth 65536 in
theorem w_t2 : (words1.drop 24).all (fun c => isCode c || c.before args0 about1) = true := by decide +kernel
theorem w_tables : (allAtoms (Jvm.Cond.code x code maxLocals ret :: tables_1)).before args0 about1 = true := by
  rw [allAtoms_all]
  show words1.all (fun c => c.before args0 about1) = true
  refine all_split ?_ w_codes
  rw [← List.take_append_drop 24 words1, List.all_append, w_t1, w_t2]
  rfl
set_option maxRecDepth 65536 in
theorem w_case : (Jvm.Cond.and given_1 narrow_1).before args0 about1 = true := by decide +kernel
theorem w_applies : (headSpec (Jvm.Cond.code x code maxLocals ret :: tables_1) room_1).applies x e0.platform about1 = true :=
  (Spec.applies_iff w_frames).mpr ⟨w_running, w_runnable, w_alone, w_named, w_hears, w_ripe, w_room, w_tables⟩
theorem atStart : AtStart classFile x code maxLocals ret World_1 tables_1 room_1 Calls_1 rest_1 Pre_1 launch0 p0 e0 about1 theMethod args0 below0 :=
  ⟨lists_1, trivial, launch0.admits_env _ _ _, launch0.least_env, fairChoices_fair.cas, fairChoices_fair.clock, w_frames, w_args, w_heap, w_applies, trivial, trivial, w_case⟩
end start1
theorem witness_1 : WitnessClaimed_1 := ⟨start1.p0, start1.e0, start1.about1, start1.theMethod, start1.args0, start1.below0, start1.atStart⟩
end Jvm.Pilot.@@N@@
