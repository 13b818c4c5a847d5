import JvmDerived
import JvmDerived.Pilot.@@N@@Statement
import JvmDerived.Pilot.@@N@@Code
set_option linter.unusedVariables false
set_option linter.unusedSimpArgs false
namespace Jvm.Pilot.@@N@@
open Jvm Jvm.ClassFile Sem Op Lib Jvm.Free Jvm.Stand Jvm.LawKit Jvm.RoadKit Bundle Jvm.Pilot.@@N@@.Jvm.D

/-! ### the own kit: a walk's goal in continuation form -/
def Go (p : Program) (e : Env) (below : List Frame) (Φ : Outcome → State → Prop) (U : State) : Prop :=
  ∃ s₂ o, Steps p.tables e below U s₂ ∧ s₂.status = .running ∧ Ended s₂ below o ∧ Φ o s₂
def Fin0 (s : State) (rm : Room) (Q : Option Value → Heap → List Loc → Prop) : Outcome → State → Prop :=
  fun o U' => ∃ v L, o = .returned v ∧ Q v U'.heap L ∧ FrameEnd s o U' L rm.cells rm.slots
abbrev Ctr (l : Launch) (Z : State) (y : MethodName) (bytes : ByteArray) (ml : Nat) (rt : Option FieldType) (rm : Room) (ws : List Jvm.Cond) (as' : Array Value) (h0 : Heap) (Q : Option Value → Heap → List Loc → Prop) : Prop :=
  MetFree l y (head1 (Jvm.Cond.code y bytes ml rt :: ws) rm) (fun a U => a = as' ∧ Z.Warmed39 U.vm ∧ U.heap = h0) (fun _ _ _ _ _ => True) (fun _ U o U' => ∃ v L, o = .returned v ∧ Q v U'.heap L ∧ FrameEnd U o U' L rm.cells rm.slots)
def b2i (b : Bool) : Int32 := if b then 1 else 0
theorem b2i_t : b2i true = 1 := rfl
theorem b2i_f : b2i false = 0 := rfl
theorem b2i_nar (b : Bool) : nar .boolean (b2i b) = b2i b := by cases b <;> rfl
theorem b2i_inj {a b : Bool} : b2i a = b2i b ↔ a = b := by cases a <;> cases b <;> decide
theorem i32e {x y : Int32} : x = y ↔ x.toInt = y.toInt := Int32.toInt_inj.symm
theorem i64e {x y : Int64} : x = y ↔ x.toInt = y.toInt := Int64.toInt_inj.symm
theorem okB {b : Bool} (h : b = true) : some (Value.int (b2i b)) = some (Value.int 1) := by rw [h]; rfl
theorem eqT {P : Prop} [Decidable P] (h : P) : some (Value.int (b2i true)) = some (Value.int (b2i (decide P))) := by rw [decide_eq_true h]
theorem eqF {P : Prop} [Decidable P] (h : ¬ P) : some (Value.int (b2i false)) = some (Value.int (b2i (decide P))) := by rw [decide_eq_false h]
theorem eqD {P Q : Prop} [Decidable P] [Decidable Q] (h : Q ↔ P) : some (Value.int (b2i (decide Q))) = some (Value.int (b2i (decide P))) := by rw [decide_eq_decide.mpr h]
theorem eqB {P : Prop} [Decidable P] {b : Bool} (h : b = true ↔ P) : some (Value.int (b2i b)) = some (Value.int (b2i (decide P))) := by
  rw [show b = decide P from by by_cases q : P <;> simp [q, h] <;> (cases b <;> simp_all)]
/-- what a pure callee leaves that returns an int (a long) of which P is said -/
def IQ (P : Int32 → Prop) (h0 : Heap) : Option Value → Heap → List Loc → Prop := fun v h L => ∃ r, v = some (.int r) ∧ P r ∧ h = h0 ∧ L = []
def JQ (P : Int64 → Prop) (h0 : Heap) : Option Value → Heap → List Loc → Prop := fun v h L => ∃ r, v = some (.long r) ∧ P r ∧ h = h0 ∧ L = []
/-- what a pure callee leaves -/
def PQ (r : Value) (h0 : Heap) : Option Value → Heap → List Loc → Prop := fun v h L => v = some r ∧ h = h0 ∧ L = []
theorem Ctr.of {l : Launch} {Z : State} {y : MethodName} {bytes : ByteArray} {ml : Nat} {rt : Option FieldType} {rm : Room} {ws : List Jvm.Cond} {as' : Array Value} {h0 : Heap} {Q : Option Value → Heap → List Loc → Prop} (hp : plainFor y = true)
    (body : ∀ (p : Program) (e : Env) (s : State) (m : MethodId) (below : List Frame) (meth : Method) (c : Code) (s₁ : State), p.tables.exec = Jvm.exec → c.code = bytes → c.maxLocals = ml → meth.sig.returnType = rt → meth.locks = false → meth.name = y.name → s.vm.findClass y.cls = some m.cls → Z.Warmed39 s.vm → Stand p l e rm s m as' below meth c s₁ [] 0 0 → s₁.heap = h0 →
      Go p e below (Fin0 s rm Q) (s₁.setTop (entryFrame m as' ml))) : Ctr l Z y bytes ml rt rm ws as' h0 Q := by
  refine MetFree.of_bodySF hp hisR ?_
  intro p e s m args below meth c s₁ Bd hml0 hP hK
  obtain ⟨rfl, hZ, hh⟩ := hP
  obtain ⟨s₂, o, g1, g2, g3, v, L, g4, g5, g6⟩ := body p e s m below meth c s₁ Bd.exec Bd.bytes hml0 Bd.returns Bd.notSynchronized (name_of_methodNamed Bd.named Bd.method).1 (findClass_of_methodNamed Bd.named) hZ (Stand.of_body Bd) (by rw [← hh, Bd.state]; rfl)
  exact ⟨s₂, o, g1, g2, g3, v, L, g4, g5, g6⟩
theorem st_one {L L' : Array Slot} {i : Nat} {o : Slot} {v : Value} (h : L[i]? = some o) (ho : One o) (hv : v.category = 1) (hL : L.setIfInBounds i (.val v) = L') : storeLocals L i v = some L' := by
  rw [XS.store1 h ho hv, hL]
section OwnKit
variable {p : Program} {l : Launch} {e : Env} {R : Room} {s : State} {m : MethodId} {args : Array Value} {below : List Frame} {meth : Method} {c : Code} {T : State} {locs : List Loc} {cells slots : Nat} {Z : State} {a0 : Array Value} {h : Heap} {Φ : Outcome → State → Prop} {pc q : Nat} {L : Array Slot} {S : List Value}
theorem Go.by {U U' : State} (h : ∀ t, Steps p.tables e below U' t → Steps p.tables e below U t) (k : Go p e below Φ U') : Go p e below Φ U := by
  obtain ⟨s₂, o, h1, r⟩ := k; exact ⟨s₂, o, h _ h1, r⟩
theorem Go.cast {g g' : JFrame} (q : g = g') (k : Go p e below Φ (T.setTop g')) : Go p e below Φ (T.setTop g) := q ▸ k
theorem g_iloadN (hA : At T m c below) (hx : p.tables.exec = Jvm.exec) {j : Fin 4} {v : Int32} (hd : decode c.code pc = .ok (.iload_n j, 1)) (hl : L[j.val]? = some (.val (.int v))) (hq : pc + 1 = q) (k : Go p e below Φ (T.setTop (mkF m q L (.int v :: S)))) : Go p e below Φ (T.setTop (mkF m pc L S)) := by
  subst hq; exact Go.by (fun _ => XS.iloadN hA hx rfl hd hl) k
theorem g_iload (hA : At T m c below) (hx : p.tables.exec = Jvm.exec) {j : Nat} {v : Int32} (hd : decode c.code pc = .ok (.iload j, 2)) (hl : L[j]? = some (.val (.int v))) (hq : pc + 2 = q) (k : Go p e below Φ (T.setTop (mkF m q L (.int v :: S)))) : Go p e below Φ (T.setTop (mkF m pc L S)) := by
  subst hq; exact Go.by (fun _ => XS.iload hA hx rfl hd hl) k
theorem g_istoreN (hA : At T m c below) (hx : p.tables.exec = Jvm.exec) {j : Fin 4} {v : Int32} {L' : Array Slot} (hd : decode c.code pc = .ok (.istore_n j, 1)) (hl : storeLocals L j.val (.int v) = some L') (hq : pc + 1 = q) (k : Go p e below Φ (T.setTop (mkF m q L' S))) : Go p e below Φ (T.setTop (mkF m pc L (.int v :: S))) := by
  subst hq; exact Go.by (fun _ => XS.istoreN hA hx rfl hd rfl hl) k
theorem g_istore (hA : At T m c below) (hx : p.tables.exec = Jvm.exec) {j : Nat} {v : Int32} {L' : Array Slot} (hd : decode c.code pc = .ok (.istore j, 2)) (hl : storeLocals L j (.int v) = some L') (hq : pc + 2 = q) (k : Go p e below Φ (T.setTop (mkF m q L' S))) : Go p e below Φ (T.setTop (mkF m pc L (.int v :: S))) := by
  subst hq; exact Go.by (fun _ => XS.istore hA hx rfl hd rfl hl) k
theorem g_lloadN (hA : At T m c below) (hx : p.tables.exec = Jvm.exec) {j : Fin 4} {v : Int64} (hd : decode c.code pc = .ok (.lload_n j, 1)) (hl : L[j.val]? = some (.val (.long v))) (hq : pc + 1 = q) (k : Go p e below Φ (T.setTop (mkF m q L (.long v :: S)))) : Go p e below Φ (T.setTop (mkF m pc L S)) := by
  subst hq; exact Go.by (fun _ => XS.lloadN hA hx rfl hd hl) k
theorem g_lload (hA : At T m c below) (hx : p.tables.exec = Jvm.exec) {j : Nat} {v : Int64} (hd : decode c.code pc = .ok (.lload j, 2)) (hl : L[j]? = some (.val (.long v))) (hq : pc + 2 = q) (k : Go p e below Φ (T.setTop (mkF m q L (.long v :: S)))) : Go p e below Φ (T.setTop (mkF m pc L S)) := by
  subst hq; exact Go.by (fun _ => XS.lload hA hx rfl hd hl) k
theorem g_lstoreN (hA : At T m c below) (hx : p.tables.exec = Jvm.exec) {j : Fin 4} {v : Int64} {L' : Array Slot} (hd : decode c.code pc = .ok (.lstore_n j, 1)) (hl : storeLocals L j.val (.long v) = some L') (hq : pc + 1 = q) (k : Go p e below Φ (T.setTop (mkF m q L' S))) : Go p e below Φ (T.setTop (mkF m pc L (.long v :: S))) := by
  subst hq; exact Go.by (fun _ => XS.lstoreN hA hx rfl hd rfl hl) k
theorem g_lstore (hA : At T m c below) (hx : p.tables.exec = Jvm.exec) {j : Nat} {v : Int64} {L' : Array Slot} (hd : decode c.code pc = .ok (.lstore j, 2)) (hl : storeLocals L j (.long v) = some L') (hq : pc + 2 = q) (k : Go p e below Φ (T.setTop (mkF m q L' S))) : Go p e below Φ (T.setTop (mkF m pc L (.long v :: S))) := by
  subst hq; exact Go.by (fun _ => XS.lstore hA hx rfl hd rfl hl) k
theorem g_aloadN (hA : At T m c below) (hx : p.tables.exec = Jvm.exec) {j : Fin 4} {v : Value} (hd : decode c.code pc = .ok (.aload_n j, 1)) (hl : L[j.val]? = some (.val v)) (hv : v.isRef = true) (hq : pc + 1 = q) (k : Go p e below Φ (T.setTop (mkF m q L (v :: S)))) : Go p e below Φ (T.setTop (mkF m pc L S)) := by
  subst hq; exact Go.by (fun _ => XS.aloadN hA hx rfl hd hl hv) k
theorem g_aload (hA : At T m c below) (hx : p.tables.exec = Jvm.exec) {j : Nat} {v : Value} (hd : decode c.code pc = .ok (.aload j, 2)) (hl : L[j]? = some (.val v)) (hv : v.isRef = true) (hq : pc + 2 = q) (k : Go p e below Φ (T.setTop (mkF m q L (v :: S)))) : Go p e below Φ (T.setTop (mkF m pc L S)) := by
  subst hq; exact Go.by (fun _ => XS.aload hA hx rfl hd hl hv) k
theorem g_astoreN (hA : At T m c below) (hx : p.tables.exec = Jvm.exec) {j : Fin 4} {v : Value} {L' : Array Slot} (hd : decode c.code pc = .ok (.astore_n j, 1)) (hv : v.isRef = true) (hl : storeLocals L j.val v = some L') (hq : pc + 1 = q) (k : Go p e below Φ (T.setTop (mkF m q L' S))) : Go p e below Φ (T.setTop (mkF m pc L (v :: S))) := by
  subst hq; exact Go.by (fun _ => XS.astoreN hA hx rfl hd rfl hv hl) k
theorem g_astore (hA : At T m c below) (hx : p.tables.exec = Jvm.exec) {j : Nat} {v : Value} {L' : Array Slot} (hd : decode c.code pc = .ok (.astore j, 2)) (hv : v.isRef = true) (hl : storeLocals L j v = some L') (hq : pc + 2 = q) (k : Go p e below Φ (T.setTop (mkF m q L' S))) : Go p e below Φ (T.setTop (mkF m pc L (v :: S))) := by
  subst hq; exact Go.by (fun _ => XS.astore hA hx rfl hd rfl hv hl) k
theorem g_iconst (hA : At T m c below) (hx : p.tables.exec = Jvm.exec) {i : Int} {v : Int32} (hd : decode c.code pc = .ok (.iconst i, 1)) (hv : Int32.ofInt i = v) (hq : pc + 1 = q) (k : Go p e below Φ (T.setTop (mkF m q L (.int v :: S)))) : Go p e below Φ (T.setTop (mkF m pc L S)) := by
  subst hq hv; exact Go.by (fun _ => XS.iconst hA hx rfl hd) k
theorem g_bipush (hA : At T m c below) (hx : p.tables.exec = Jvm.exec) {i : Int} {v : Int32} (hd : decode c.code pc = .ok (.bipush i, 2)) (hv : (Int8.ofInt i).toInt32 = v) (hq : pc + 2 = q) (k : Go p e below Φ (T.setTop (mkF m q L (.int v :: S)))) : Go p e below Φ (T.setTop (mkF m pc L S)) := by
  subst hq hv; exact Go.by (fun _ => XS.bipush hA hx rfl hd) k
theorem g_sipush (hA : At T m c below) (hx : p.tables.exec = Jvm.exec) {i : Int} {v : Int32} (hd : decode c.code pc = .ok (.sipush i, 3)) (hv : (Int16.ofInt i).toInt32 = v) (hq : pc + 3 = q) (k : Go p e below Φ (T.setTop (mkF m q L (.int v :: S)))) : Go p e below Φ (T.setTop (mkF m pc L S)) := by
  subst hq hv; exact Go.by (fun _ => XS.sipush hA hx rfl hd) k
theorem g_lconst0 (hA : At T m c below) (hx : p.tables.exec = Jvm.exec) (hd : decode c.code pc = .ok (.lconst 0, 1)) (hq : pc + 1 = q) (k : Go p e below Φ (T.setTop (mkF m q L (.long 0 :: S)))) : Go p e below Φ (T.setTop (mkF m pc L S)) := by
  subst hq; exact Go.by (fun _ => XS.lconst hA hx rfl hd) k
theorem g_lconst1 (hA : At T m c below) (hx : p.tables.exec = Jvm.exec) (hd : decode c.code pc = .ok (.lconst 1, 1)) (hq : pc + 1 = q) (k : Go p e below Φ (T.setTop (mkF m q L (.long 1 :: S)))) : Go p e below Φ (T.setTop (mkF m pc L S)) := by
  subst hq; exact Go.by (fun _ => XS.lconst hA hx rfl hd) k
theorem g_aconst_null (hA : At T m c below) (hx : p.tables.exec = Jvm.exec) (hd : decode c.code pc = .ok (.aconst_null, 1)) (hq : pc + 1 = q) (k : Go p e below Φ (T.setTop (mkF m q L (.null :: S)))) : Go p e below Φ (T.setTop (mkF m pc L S)) := by
  subst hq; exact Go.by (fun _ => XS.aconstNull hA hx rfl hd) k
theorem g_iadd (hA : At T m c below) (hx : p.tables.exec = Jvm.exec) {x y : Int32} (hd : decode c.code pc = .ok (.iadd, 1)) (hq : pc + 1 = q) (k : Go p e below Φ (T.setTop (mkF m q L (.int (x + y) :: S)))) : Go p e below Φ (T.setTop (mkF m pc L (.int y :: .int x :: S))) := by
  subst hq; exact Go.by (fun _ => XS.iadd hA hx rfl hd rfl) k
theorem g_isub (hA : At T m c below) (hx : p.tables.exec = Jvm.exec) {x y : Int32} (hd : decode c.code pc = .ok (.isub, 1)) (hq : pc + 1 = q) (k : Go p e below Φ (T.setTop (mkF m q L (.int (x - y) :: S)))) : Go p e below Φ (T.setTop (mkF m pc L (.int y :: .int x :: S))) := by
  subst hq; exact Go.by (fun _ => XS.isub hA hx rfl hd rfl) k
theorem g_imul (hA : At T m c below) (hx : p.tables.exec = Jvm.exec) {x y : Int32} (hd : decode c.code pc = .ok (.imul, 1)) (hq : pc + 1 = q) (k : Go p e below Φ (T.setTop (mkF m q L (.int (x * y) :: S)))) : Go p e below Φ (T.setTop (mkF m pc L (.int y :: .int x :: S))) := by
  subst hq; exact Go.by (fun _ => XS.imul hA hx rfl hd rfl) k
theorem g_iand (hA : At T m c below) (hx : p.tables.exec = Jvm.exec) {x y : Int32} (hd : decode c.code pc = .ok (.iand, 1)) (hq : pc + 1 = q) (k : Go p e below Φ (T.setTop (mkF m q L (.int (x &&& y) :: S)))) : Go p e below Φ (T.setTop (mkF m pc L (.int y :: .int x :: S))) := by
  subst hq; exact Go.by (fun _ => XS.iand hA hx rfl hd rfl) k
theorem g_ior (hA : At T m c below) (hx : p.tables.exec = Jvm.exec) {x y : Int32} (hd : decode c.code pc = .ok (.ior, 1)) (hq : pc + 1 = q) (k : Go p e below Φ (T.setTop (mkF m q L (.int (x ||| y) :: S)))) : Go p e below Φ (T.setTop (mkF m pc L (.int y :: .int x :: S))) := by
  subst hq; exact Go.by (fun _ => XS.ior hA hx rfl hd rfl) k
theorem g_ixor (hA : At T m c below) (hx : p.tables.exec = Jvm.exec) {x y : Int32} (hd : decode c.code pc = .ok (.ixor, 1)) (hq : pc + 1 = q) (k : Go p e below Φ (T.setTop (mkF m q L (.int (x ^^^ y) :: S)))) : Go p e below Φ (T.setTop (mkF m pc L (.int y :: .int x :: S))) := by
  subst hq; exact Go.by (fun _ => XS.ixor hA hx rfl hd rfl) k
theorem g_ishl (hA : At T m c below) (hx : p.tables.exec = Jvm.exec) {x y : Int32} (hd : decode c.code pc = .ok (.ishl, 1)) (hq : pc + 1 = q) (k : Go p e below Φ (T.setTop (mkF m q L (.int (x <<< (y &&& 31)) :: S)))) : Go p e below Φ (T.setTop (mkF m pc L (.int y :: .int x :: S))) := by
  subst hq; exact Go.by (fun _ => XS.ishl hA hx rfl hd rfl) k
theorem g_ishr (hA : At T m c below) (hx : p.tables.exec = Jvm.exec) {x y : Int32} (hd : decode c.code pc = .ok (.ishr, 1)) (hq : pc + 1 = q) (k : Go p e below Φ (T.setTop (mkF m q L (.int (x >>> (y &&& 31)) :: S)))) : Go p e below Φ (T.setTop (mkF m pc L (.int y :: .int x :: S))) := by
  subst hq; exact Go.by (fun _ => XS.ishr hA hx rfl hd rfl) k
theorem g_iushr (hA : At T m c below) (hx : p.tables.exec = Jvm.exec) {x y : Int32} (hd : decode c.code pc = .ok (.iushr, 1)) (hq : pc + 1 = q) (k : Go p e below Φ (T.setTop (mkF m q L (.int ((x.toUInt32 >>> (y &&& 31).toUInt32).toInt32) :: S)))) : Go p e below Φ (T.setTop (mkF m pc L (.int y :: .int x :: S))) := by
  subst hq; exact Go.by (fun _ => XS.iushr hA hx rfl hd rfl) k
theorem g_ladd (hA : At T m c below) (hx : p.tables.exec = Jvm.exec) {x y : Int64} (hd : decode c.code pc = .ok (.ladd, 1)) (hq : pc + 1 = q) (k : Go p e below Φ (T.setTop (mkF m q L (.long (x + y) :: S)))) : Go p e below Φ (T.setTop (mkF m pc L (.long y :: .long x :: S))) := by
  subst hq; exact Go.by (fun _ => XS.ladd hA hx rfl hd rfl) k
theorem g_lsub (hA : At T m c below) (hx : p.tables.exec = Jvm.exec) {x y : Int64} (hd : decode c.code pc = .ok (.lsub, 1)) (hq : pc + 1 = q) (k : Go p e below Φ (T.setTop (mkF m q L (.long (x - y) :: S)))) : Go p e below Φ (T.setTop (mkF m pc L (.long y :: .long x :: S))) := by
  subst hq; exact Go.by (fun _ => XS.lsub hA hx rfl hd rfl) k
theorem g_lmul (hA : At T m c below) (hx : p.tables.exec = Jvm.exec) {x y : Int64} (hd : decode c.code pc = .ok (.lmul, 1)) (hq : pc + 1 = q) (k : Go p e below Φ (T.setTop (mkF m q L (.long (x * y) :: S)))) : Go p e below Φ (T.setTop (mkF m pc L (.long y :: .long x :: S))) := by
  subst hq; exact Go.by (fun _ => XS.lmul hA hx rfl hd rfl) k
theorem g_land (hA : At T m c below) (hx : p.tables.exec = Jvm.exec) {x y : Int64} (hd : decode c.code pc = .ok (.land, 1)) (hq : pc + 1 = q) (k : Go p e below Φ (T.setTop (mkF m q L (.long (x &&& y) :: S)))) : Go p e below Φ (T.setTop (mkF m pc L (.long y :: .long x :: S))) := by
  subst hq; exact Go.by (fun _ => XS.land hA hx rfl hd rfl) k
theorem g_lor (hA : At T m c below) (hx : p.tables.exec = Jvm.exec) {x y : Int64} (hd : decode c.code pc = .ok (.lor, 1)) (hq : pc + 1 = q) (k : Go p e below Φ (T.setTop (mkF m q L (.long (x ||| y) :: S)))) : Go p e below Φ (T.setTop (mkF m pc L (.long y :: .long x :: S))) := by
  subst hq; exact Go.by (fun _ => XS.lor hA hx rfl hd rfl) k
theorem g_lxor (hA : At T m c below) (hx : p.tables.exec = Jvm.exec) {x y : Int64} (hd : decode c.code pc = .ok (.lxor, 1)) (hq : pc + 1 = q) (k : Go p e below Φ (T.setTop (mkF m q L (.long (x ^^^ y) :: S)))) : Go p e below Φ (T.setTop (mkF m pc L (.long y :: .long x :: S))) := by
  subst hq; exact Go.by (fun _ => XS.lxor hA hx rfl hd rfl) k
theorem g_lshl (hA : At T m c below) (hx : p.tables.exec = Jvm.exec) {x : Int64} {y : Int32} (hd : decode c.code pc = .ok (.lshl, 1)) (hq : pc + 1 = q) (k : Go p e below Φ (T.setTop (mkF m q L (.long (x <<< (y &&& 0x3f).toInt64) :: S)))) : Go p e below Φ (T.setTop (mkF m pc L (.int y :: .long x :: S))) := by
  subst hq; exact Go.by (fun _ => XS.lshl hA hx rfl hd rfl) k
theorem g_lshr (hA : At T m c below) (hx : p.tables.exec = Jvm.exec) {x : Int64} {y : Int32} (hd : decode c.code pc = .ok (.lshr, 1)) (hq : pc + 1 = q) (k : Go p e below Φ (T.setTop (mkF m q L (.long (x >>> (y &&& 0x3f).toInt64) :: S)))) : Go p e below Φ (T.setTop (mkF m pc L (.int y :: .long x :: S))) := by
  subst hq; exact Go.by (fun _ => XS.lshr hA hx rfl hd rfl) k
theorem g_lushr (hA : At T m c below) (hx : p.tables.exec = Jvm.exec) {x : Int64} {y : Int32} (hd : decode c.code pc = .ok (.lushr, 1)) (hq : pc + 1 = q) (k : Go p e below Φ (T.setTop (mkF m q L (.long ((x.toUInt64 >>> (y &&& 0x3f).toInt64.toUInt64).toInt64) :: S)))) : Go p e below Φ (T.setTop (mkF m pc L (.int y :: .long x :: S))) := by
  subst hq; exact Go.by (fun _ => XS.lushr hA hx rfl hd rfl) k
theorem g_idiv (hA : At T m c below) (hx : p.tables.exec = Jvm.exec) {x y : Int32} (hd : decode c.code pc = .ok (.idiv, 1)) (hy : y ≠ 0) (hq : pc + 1 = q) (k : Go p e below Φ (T.setTop (mkF m q L (.int (x / y) :: S)))) : Go p e below Φ (T.setTop (mkF m pc L (.int y :: .int x :: S))) := by
  subst hq; exact Go.by (fun _ => XS.idiv hA hx rfl hd rfl hy) k
theorem g_irem (hA : At T m c below) (hx : p.tables.exec = Jvm.exec) {x y : Int32} (hd : decode c.code pc = .ok (.irem, 1)) (hy : y ≠ 0) (hq : pc + 1 = q) (k : Go p e below Φ (T.setTop (mkF m q L (.int (x % y) :: S)))) : Go p e below Φ (T.setTop (mkF m pc L (.int y :: .int x :: S))) := by
  subst hq; exact Go.by (fun _ => fun r => XS.irem hA hx rfl hd rfl hy (by rw [irem_eq_mod x y]; exact r)) k
theorem g_ldiv (hA : At T m c below) (hx : p.tables.exec = Jvm.exec) {x y : Int64} (hd : decode c.code pc = .ok (.ldiv, 1)) (hy : y ≠ 0) (hq : pc + 1 = q) (k : Go p e below Φ (T.setTop (mkF m q L (.long (x / y) :: S)))) : Go p e below Φ (T.setTop (mkF m pc L (.long y :: .long x :: S))) := by
  subst hq; exact Go.by (fun _ => XS.ldiv hA hx rfl hd rfl hy) k
theorem g_lrem (hA : At T m c below) (hx : p.tables.exec = Jvm.exec) {x y : Int64} (hd : decode c.code pc = .ok (.lrem, 1)) (hy : y ≠ 0) (hq : pc + 1 = q) (k : Go p e below Φ (T.setTop (mkF m q L (.long (x % y) :: S)))) : Go p e below Φ (T.setTop (mkF m pc L (.long y :: .long x :: S))) := by
  subst hq; exact Go.by (fun _ => fun r => XS.lrem hA hx rfl hd rfl hy (by rw [lrem_mod x y]; exact r)) k
theorem g_ineg (hA : At T m c below) (hx : p.tables.exec = Jvm.exec) {x : Int32} (hd : decode c.code pc = .ok (.ineg, 1)) (hq : pc + 1 = q) (k : Go p e below Φ (T.setTop (mkF m q L (.int (-x) :: S)))) : Go p e below Φ (T.setTop (mkF m pc L (.int x :: S))) := by
  subst hq; exact Go.by (fun _ => XS.ineg hA hx rfl hd rfl) k
theorem g_i2l (hA : At T m c below) (hx : p.tables.exec = Jvm.exec) {x : Int32} (hd : decode c.code pc = .ok (.i2l, 1)) (hq : pc + 1 = q) (k : Go p e below Φ (T.setTop (mkF m q L (.long x.toInt64 :: S)))) : Go p e below Φ (T.setTop (mkF m pc L (.int x :: S))) := by
  subst hq; exact Go.by (fun _ => XS.i2l hA hx rfl hd rfl) k
theorem g_l2i (hA : At T m c below) (hx : p.tables.exec = Jvm.exec) {x : Int64} (hd : decode c.code pc = .ok (.l2i, 1)) (hq : pc + 1 = q) (k : Go p e below Φ (T.setTop (mkF m q L (.int x.toInt32 :: S)))) : Go p e below Φ (T.setTop (mkF m pc L (.long x :: S))) := by
  subst hq; exact Go.by (fun _ => XS.l2i hA hx rfl hd rfl) k
theorem g_i2c (hA : At T m c below) (hx : p.tables.exec = Jvm.exec) {x : Int32} (hd : decode c.code pc = .ok (.i2c, 1)) (hq : pc + 1 = q) (k : Go p e below Φ (T.setTop (mkF m q L (.int x.toUInt32.toUInt16.toUInt32.toInt32 :: S)))) : Go p e below Φ (T.setTop (mkF m pc L (.int x :: S))) := by
  subst hq; exact Go.by (fun _ => XS.i2c hA hx rfl hd rfl) k
theorem g_lcmp (hA : At T m c below) (hx : p.tables.exec = Jvm.exec) {x y : Int64} (hd : decode c.code pc = .ok (.lcmp, 1)) (hq : pc + 1 = q) (k : Go p e below Φ (T.setTop (mkF m q L (.int (lcmpW x y) :: S)))) : Go p e below Φ (T.setTop (mkF m pc L (.long y :: .long x :: S))) := by
  subst hq; exact Go.by (fun _ => XS.lcmp hA hx rfl hd rfl) k
theorem g_iinc (hA : At T m c below) (hx : p.tables.exec = Jvm.exec) {j : Nat} {i : Int} {x v : Int32} {L' : Array Slot} (hd : decode c.code pc = .ok (.iinc j i, 3)) (hl : L[j]? = some (.val (.int x))) (hv : x + Int32.ofInt i = v) (hl' : storeLocals L j (.int v) = some L') (hq : pc + 3 = q) (k : Go p e below Φ (T.setTop (mkF m q L' S))) : Go p e below Φ (T.setTop (mkF m pc L S)) := by
  subst hq; exact Go.by (fun _ => XS.iinc hA hx rfl hd hl (by rw [hv]; exact hl')) k
theorem g_dup (hA : At T m c below) (hx : p.tables.exec = Jvm.exec) {v : Value} (hd : decode c.code pc = .ok (.dup, 1)) (hv : v.category = 1) (hq : pc + 1 = q) (k : Go p e below Φ (T.setTop (mkF m q L (v :: v :: S)))) : Go p e below Φ (T.setTop (mkF m pc L (v :: S))) := by
  subst hq; exact Go.by (fun _ => XS.dup hA hx rfl hd rfl hv) k
theorem g_pop (hA : At T m c below) (hx : p.tables.exec = Jvm.exec) {v : Value} (hd : decode c.code pc = .ok (.pop, 1)) (hv : v.category = 1) (hq : pc + 1 = q) (k : Go p e below Φ (T.setTop (mkF m q L S))) : Go p e below Φ (T.setTop (mkF m pc L (v :: S))) := by
  subst hq; exact Go.by (fun _ => XS.pop hA hx rfl hd rfl hv) k
theorem g_dupX1 (hA : At T m c below) (hx : p.tables.exec = Jvm.exec) {v w : Value} (hd : decode c.code pc = .ok (.dup_x1, 1)) (hv : v.category = 1) (hw' : w.category = 1) (hq : pc + 1 = q) (k : Go p e below Φ (T.setTop (mkF m q L (v :: w :: v :: S)))) : Go p e below Φ (T.setTop (mkF m pc L (v :: w :: S))) := by
  subst hq; exact Go.by (fun _ => XS.dupX1 hA hx rfl hd rfl hv hw') k
theorem g_dup2 (hA : At T m c below) (hx : p.tables.exec = Jvm.exec) {v w : Value} (hd : decode c.code pc = .ok (.dup2, 1)) (hv : v.category = 1) (hw' : w.category = 1) (hq : pc + 1 = q) (k : Go p e below Φ (T.setTop (mkF m q L (v :: w :: v :: w :: S)))) : Go p e below Φ (T.setTop (mkF m pc L (v :: w :: S))) := by
  subst hq; exact Go.by (fun _ => Jvm.Free.XT.dup2 hA hx rfl hd rfl hv hw') k
theorem g_goto (hA : At T m c below) (hx : p.tables.exec = Jvm.exec) {o : Int} (hd : decode c.code pc = .ok (.goto o, 3)) (ho : 0 ≤ (pc : Int) + o) (hq : ((pc : Int) + o).toNat = q) (k : Go p e below Φ (T.setTop (mkF m q L S))) : Go p e below Φ (T.setTop (mkF m pc L S)) := Go.by (fun _ => XS.goto hA hx rfl rfl hd ho hq) k
theorem g_icmp (hA : At T m c below) (hx : p.tables.exec = Jvm.exec) {cd : ClassFile.Cond} {o : Int} {q0 : Nat} {x y : Int32} (hd : decode c.code pc = .ok (.if_icmp cd o, 3)) (ho : 0 ≤ (pc : Int) + o) (hq : ((pc : Int) + o).toNat = q) (hq0 : pc + 3 = q0) (k1 : if_icmp.holds cd x y = true → Go p e below Φ (T.setTop (mkF m q L S))) (k0 : if_icmp.holds cd x y = false → Go p e below Φ (T.setTop (mkF m q0 L S))) : Go p e below Φ (T.setTop (mkF m pc L (.int y :: .int x :: S))) := by
  subst hq0
  cases hb : if_icmp.holds cd x y
  · exact Go.by (fun _ => XS.icmpNo hA hx rfl hd rfl hb) (k0 hb)
  · exact Go.by (fun _ => XS.icmpYes hA hx rfl rfl hd rfl hb ho hq) (k1 hb)
theorem g_if0 (hA : At T m c below) (hx : p.tables.exec = Jvm.exec) {cd : ClassFile.Cond} {o : Int} {q0 : Nat} {x : Int32} (hd : decode c.code pc = .ok (.ifCond cd o, 3)) (ho : 0 ≤ (pc : Int) + o) (hq : ((pc : Int) + o).toNat = q) (hq0 : pc + 3 = q0) (k1 : if_icmp.holds cd x 0 = true → Go p e below Φ (T.setTop (mkF m q L S))) (k0 : if_icmp.holds cd x 0 = false → Go p e below Φ (T.setTop (mkF m q0 L S))) : Go p e below Φ (T.setTop (mkF m pc L (.int x :: S))) := by
  subst hq0
  cases hb : if_icmp.holds cd x 0
  · exact Go.by (fun _ => XS.ifNo hA hx rfl hd rfl ((if0 _ _).trans hb)) (k0 hb)
  · exact Go.by (fun _ => XS.ifYes hA hx rfl rfl hd rfl ((if0 _ _).trans hb) ho hq) (k1 hb)
theorem rel_eq {x y : Int32} : (if_icmp.holds .eq x y = true → x.toInt = y.toInt) ∧ (if_icmp.holds .eq x y = false → x.toInt ≠ y.toInt) := by
  constructor <;> intro h <;> simp [if_icmp.holds, Int32.lt_iff_toInt_lt, Int32.le_iff_toInt_le, ← Int32.toInt_inj] at h <;> omega
theorem g_icmp_eq (hA : At T m c below) (hx : p.tables.exec = Jvm.exec) {o : Int} {q0 : Nat} {x y : Int32} (hd : decode c.code pc = .ok (.if_icmp .eq o, 3)) (ho : 0 ≤ (pc : Int) + o) (hq : ((pc : Int) + o).toNat = q) (hq0 : pc + 3 = q0) (k1 : x.toInt = y.toInt → Go p e below Φ (T.setTop (mkF m q L S))) (k0 : x.toInt ≠ y.toInt → Go p e below Φ (T.setTop (mkF m q0 L S))) : Go p e below Φ (T.setTop (mkF m pc L (.int y :: .int x :: S))) := g_icmp hA hx hd ho hq hq0 (fun h => k1 (rel_eq.1 h)) (fun h => k0 (rel_eq.2 h))
theorem g_if_eq (hA : At T m c below) (hx : p.tables.exec = Jvm.exec) {o : Int} {q0 : Nat} {x : Int32} (hd : decode c.code pc = .ok (.ifCond .eq o, 3)) (ho : 0 ≤ (pc : Int) + o) (hq : ((pc : Int) + o).toNat = q) (hq0 : pc + 3 = q0) (k1 : x.toInt = 0 → Go p e below Φ (T.setTop (mkF m q L S))) (k0 : x.toInt ≠ 0 → Go p e below Φ (T.setTop (mkF m q0 L S))) : Go p e below Φ (T.setTop (mkF m pc L (.int x :: S))) := g_if0 hA hx hd ho hq hq0 (fun h => k1 (rel_eq.1 h)) (fun h => k0 (rel_eq.2 h))
theorem rell_eq {x y : Int64} : (if_icmp.holds .eq (lcmpW x y) 0 = true → x.toInt = y.toInt) ∧ (if_icmp.holds .eq (lcmpW x y) 0 = false → x.toInt ≠ y.toInt) := by
  have q := c_lcmp x y
  constructor <;> intro h
  · have h' := (rel_eq (x := lcmpW x y) (y := 0)).1 h; rw [show (0 : Int32).toInt = 0 from rfl] at h'; generalize lcmpW x y = w at *; omega
  · have h' := (rel_eq (x := lcmpW x y) (y := 0)).2 h; rw [show (0 : Int32).toInt = 0 from rfl] at h'; generalize lcmpW x y = w at *; omega
theorem g_lcmp_eq (hA : At T m c below) (hx : p.tables.exec = Jvm.exec) {o : Int} {q1 q0 : Nat} {x y : Int64} (hd : decode c.code pc = .ok (.lcmp, 1)) (hq1 : pc + 1 = q1) (hd' : decode c.code q1 = .ok (.ifCond .eq o, 3)) (ho : 0 ≤ (q1 : Int) + o) (hq : ((q1 : Int) + o).toNat = q) (hq0 : q1 + 3 = q0) (k1 : x.toInt = y.toInt → Go p e below Φ (T.setTop (mkF m q L S))) (k0 : x.toInt ≠ y.toInt → Go p e below Φ (T.setTop (mkF m q0 L S))) : Go p e below Φ (T.setTop (mkF m pc L (.long y :: .long x :: S))) := g_lcmp hA hx hd hq1 (g_if0 hA hx hd' ho hq hq0 (fun h => k1 (rell_eq.1 h)) (fun h => k0 (rell_eq.2 h)))
theorem rel_ne {x y : Int32} : (if_icmp.holds .ne x y = true → x.toInt ≠ y.toInt) ∧ (if_icmp.holds .ne x y = false → x.toInt = y.toInt) := by
  constructor <;> intro h <;> simp [if_icmp.holds, Int32.lt_iff_toInt_lt, Int32.le_iff_toInt_le, ← Int32.toInt_inj] at h <;> omega
theorem g_icmp_ne (hA : At T m c below) (hx : p.tables.exec = Jvm.exec) {o : Int} {q0 : Nat} {x y : Int32} (hd : decode c.code pc = .ok (.if_icmp .ne o, 3)) (ho : 0 ≤ (pc : Int) + o) (hq : ((pc : Int) + o).toNat = q) (hq0 : pc + 3 = q0) (k1 : x.toInt ≠ y.toInt → Go p e below Φ (T.setTop (mkF m q L S))) (k0 : x.toInt = y.toInt → Go p e below Φ (T.setTop (mkF m q0 L S))) : Go p e below Φ (T.setTop (mkF m pc L (.int y :: .int x :: S))) := g_icmp hA hx hd ho hq hq0 (fun h => k1 (rel_ne.1 h)) (fun h => k0 (rel_ne.2 h))
theorem g_if_ne (hA : At T m c below) (hx : p.tables.exec = Jvm.exec) {o : Int} {q0 : Nat} {x : Int32} (hd : decode c.code pc = .ok (.ifCond .ne o, 3)) (ho : 0 ≤ (pc : Int) + o) (hq : ((pc : Int) + o).toNat = q) (hq0 : pc + 3 = q0) (k1 : x.toInt ≠ 0 → Go p e below Φ (T.setTop (mkF m q L S))) (k0 : x.toInt = 0 → Go p e below Φ (T.setTop (mkF m q0 L S))) : Go p e below Φ (T.setTop (mkF m pc L (.int x :: S))) := g_if0 hA hx hd ho hq hq0 (fun h => k1 (rel_ne.1 h)) (fun h => k0 (rel_ne.2 h))
theorem rell_ne {x y : Int64} : (if_icmp.holds .ne (lcmpW x y) 0 = true → x.toInt ≠ y.toInt) ∧ (if_icmp.holds .ne (lcmpW x y) 0 = false → x.toInt = y.toInt) := by
  have q := c_lcmp x y
  constructor <;> intro h
  · have h' := (rel_ne (x := lcmpW x y) (y := 0)).1 h; rw [show (0 : Int32).toInt = 0 from rfl] at h'; generalize lcmpW x y = w at *; omega
  · have h' := (rel_ne (x := lcmpW x y) (y := 0)).2 h; rw [show (0 : Int32).toInt = 0 from rfl] at h'; generalize lcmpW x y = w at *; omega
theorem g_lcmp_ne (hA : At T m c below) (hx : p.tables.exec = Jvm.exec) {o : Int} {q1 q0 : Nat} {x y : Int64} (hd : decode c.code pc = .ok (.lcmp, 1)) (hq1 : pc + 1 = q1) (hd' : decode c.code q1 = .ok (.ifCond .ne o, 3)) (ho : 0 ≤ (q1 : Int) + o) (hq : ((q1 : Int) + o).toNat = q) (hq0 : q1 + 3 = q0) (k1 : x.toInt ≠ y.toInt → Go p e below Φ (T.setTop (mkF m q L S))) (k0 : x.toInt = y.toInt → Go p e below Φ (T.setTop (mkF m q0 L S))) : Go p e below Φ (T.setTop (mkF m pc L (.long y :: .long x :: S))) := g_lcmp hA hx hd hq1 (g_if0 hA hx hd' ho hq hq0 (fun h => k1 (rell_ne.1 h)) (fun h => k0 (rell_ne.2 h)))
theorem rel_lt {x y : Int32} : (if_icmp.holds .lt x y = true → x.toInt < y.toInt) ∧ (if_icmp.holds .lt x y = false → y.toInt ≤ x.toInt) := by
  constructor <;> intro h <;> simp [if_icmp.holds, Int32.lt_iff_toInt_lt, Int32.le_iff_toInt_le, ← Int32.toInt_inj] at h <;> omega
theorem g_icmp_lt (hA : At T m c below) (hx : p.tables.exec = Jvm.exec) {o : Int} {q0 : Nat} {x y : Int32} (hd : decode c.code pc = .ok (.if_icmp .lt o, 3)) (ho : 0 ≤ (pc : Int) + o) (hq : ((pc : Int) + o).toNat = q) (hq0 : pc + 3 = q0) (k1 : x.toInt < y.toInt → Go p e below Φ (T.setTop (mkF m q L S))) (k0 : y.toInt ≤ x.toInt → Go p e below Φ (T.setTop (mkF m q0 L S))) : Go p e below Φ (T.setTop (mkF m pc L (.int y :: .int x :: S))) := g_icmp hA hx hd ho hq hq0 (fun h => k1 (rel_lt.1 h)) (fun h => k0 (rel_lt.2 h))
theorem g_if_lt (hA : At T m c below) (hx : p.tables.exec = Jvm.exec) {o : Int} {q0 : Nat} {x : Int32} (hd : decode c.code pc = .ok (.ifCond .lt o, 3)) (ho : 0 ≤ (pc : Int) + o) (hq : ((pc : Int) + o).toNat = q) (hq0 : pc + 3 = q0) (k1 : x.toInt < 0 → Go p e below Φ (T.setTop (mkF m q L S))) (k0 : 0 ≤ x.toInt → Go p e below Φ (T.setTop (mkF m q0 L S))) : Go p e below Φ (T.setTop (mkF m pc L (.int x :: S))) := g_if0 hA hx hd ho hq hq0 (fun h => k1 (rel_lt.1 h)) (fun h => k0 (rel_lt.2 h))
theorem rell_lt {x y : Int64} : (if_icmp.holds .lt (lcmpW x y) 0 = true → x.toInt < y.toInt) ∧ (if_icmp.holds .lt (lcmpW x y) 0 = false → y.toInt ≤ x.toInt) := by
  have q := c_lcmp x y
  constructor <;> intro h
  · have h' := (rel_lt (x := lcmpW x y) (y := 0)).1 h; rw [show (0 : Int32).toInt = 0 from rfl] at h'; generalize lcmpW x y = w at *; omega
  · have h' := (rel_lt (x := lcmpW x y) (y := 0)).2 h; rw [show (0 : Int32).toInt = 0 from rfl] at h'; generalize lcmpW x y = w at *; omega
theorem g_lcmp_lt (hA : At T m c below) (hx : p.tables.exec = Jvm.exec) {o : Int} {q1 q0 : Nat} {x y : Int64} (hd : decode c.code pc = .ok (.lcmp, 1)) (hq1 : pc + 1 = q1) (hd' : decode c.code q1 = .ok (.ifCond .lt o, 3)) (ho : 0 ≤ (q1 : Int) + o) (hq : ((q1 : Int) + o).toNat = q) (hq0 : q1 + 3 = q0) (k1 : x.toInt < y.toInt → Go p e below Φ (T.setTop (mkF m q L S))) (k0 : y.toInt ≤ x.toInt → Go p e below Φ (T.setTop (mkF m q0 L S))) : Go p e below Φ (T.setTop (mkF m pc L (.long y :: .long x :: S))) := g_lcmp hA hx hd hq1 (g_if0 hA hx hd' ho hq hq0 (fun h => k1 (rell_lt.1 h)) (fun h => k0 (rell_lt.2 h)))
theorem rel_ge {x y : Int32} : (if_icmp.holds .ge x y = true → y.toInt ≤ x.toInt) ∧ (if_icmp.holds .ge x y = false → x.toInt < y.toInt) := by
  constructor <;> intro h <;> simp [if_icmp.holds, Int32.lt_iff_toInt_lt, Int32.le_iff_toInt_le, ← Int32.toInt_inj] at h <;> omega
theorem g_icmp_ge (hA : At T m c below) (hx : p.tables.exec = Jvm.exec) {o : Int} {q0 : Nat} {x y : Int32} (hd : decode c.code pc = .ok (.if_icmp .ge o, 3)) (ho : 0 ≤ (pc : Int) + o) (hq : ((pc : Int) + o).toNat = q) (hq0 : pc + 3 = q0) (k1 : y.toInt ≤ x.toInt → Go p e below Φ (T.setTop (mkF m q L S))) (k0 : x.toInt < y.toInt → Go p e below Φ (T.setTop (mkF m q0 L S))) : Go p e below Φ (T.setTop (mkF m pc L (.int y :: .int x :: S))) := g_icmp hA hx hd ho hq hq0 (fun h => k1 (rel_ge.1 h)) (fun h => k0 (rel_ge.2 h))
theorem g_if_ge (hA : At T m c below) (hx : p.tables.exec = Jvm.exec) {o : Int} {q0 : Nat} {x : Int32} (hd : decode c.code pc = .ok (.ifCond .ge o, 3)) (ho : 0 ≤ (pc : Int) + o) (hq : ((pc : Int) + o).toNat = q) (hq0 : pc + 3 = q0) (k1 : 0 ≤ x.toInt → Go p e below Φ (T.setTop (mkF m q L S))) (k0 : x.toInt < 0 → Go p e below Φ (T.setTop (mkF m q0 L S))) : Go p e below Φ (T.setTop (mkF m pc L (.int x :: S))) := g_if0 hA hx hd ho hq hq0 (fun h => k1 (rel_ge.1 h)) (fun h => k0 (rel_ge.2 h))
theorem rell_ge {x y : Int64} : (if_icmp.holds .ge (lcmpW x y) 0 = true → y.toInt ≤ x.toInt) ∧ (if_icmp.holds .ge (lcmpW x y) 0 = false → x.toInt < y.toInt) := by
  have q := c_lcmp x y
  constructor <;> intro h
  · have h' := (rel_ge (x := lcmpW x y) (y := 0)).1 h; rw [show (0 : Int32).toInt = 0 from rfl] at h'; generalize lcmpW x y = w at *; omega
  · have h' := (rel_ge (x := lcmpW x y) (y := 0)).2 h; rw [show (0 : Int32).toInt = 0 from rfl] at h'; generalize lcmpW x y = w at *; omega
theorem g_lcmp_ge (hA : At T m c below) (hx : p.tables.exec = Jvm.exec) {o : Int} {q1 q0 : Nat} {x y : Int64} (hd : decode c.code pc = .ok (.lcmp, 1)) (hq1 : pc + 1 = q1) (hd' : decode c.code q1 = .ok (.ifCond .ge o, 3)) (ho : 0 ≤ (q1 : Int) + o) (hq : ((q1 : Int) + o).toNat = q) (hq0 : q1 + 3 = q0) (k1 : y.toInt ≤ x.toInt → Go p e below Φ (T.setTop (mkF m q L S))) (k0 : x.toInt < y.toInt → Go p e below Φ (T.setTop (mkF m q0 L S))) : Go p e below Φ (T.setTop (mkF m pc L (.long y :: .long x :: S))) := g_lcmp hA hx hd hq1 (g_if0 hA hx hd' ho hq hq0 (fun h => k1 (rell_ge.1 h)) (fun h => k0 (rell_ge.2 h)))
theorem rel_gt {x y : Int32} : (if_icmp.holds .gt x y = true → y.toInt < x.toInt) ∧ (if_icmp.holds .gt x y = false → x.toInt ≤ y.toInt) := by
  constructor <;> intro h <;> simp [if_icmp.holds, Int32.lt_iff_toInt_lt, Int32.le_iff_toInt_le, ← Int32.toInt_inj] at h <;> omega
theorem g_icmp_gt (hA : At T m c below) (hx : p.tables.exec = Jvm.exec) {o : Int} {q0 : Nat} {x y : Int32} (hd : decode c.code pc = .ok (.if_icmp .gt o, 3)) (ho : 0 ≤ (pc : Int) + o) (hq : ((pc : Int) + o).toNat = q) (hq0 : pc + 3 = q0) (k1 : y.toInt < x.toInt → Go p e below Φ (T.setTop (mkF m q L S))) (k0 : x.toInt ≤ y.toInt → Go p e below Φ (T.setTop (mkF m q0 L S))) : Go p e below Φ (T.setTop (mkF m pc L (.int y :: .int x :: S))) := g_icmp hA hx hd ho hq hq0 (fun h => k1 (rel_gt.1 h)) (fun h => k0 (rel_gt.2 h))
theorem g_if_gt (hA : At T m c below) (hx : p.tables.exec = Jvm.exec) {o : Int} {q0 : Nat} {x : Int32} (hd : decode c.code pc = .ok (.ifCond .gt o, 3)) (ho : 0 ≤ (pc : Int) + o) (hq : ((pc : Int) + o).toNat = q) (hq0 : pc + 3 = q0) (k1 : 0 < x.toInt → Go p e below Φ (T.setTop (mkF m q L S))) (k0 : x.toInt ≤ 0 → Go p e below Φ (T.setTop (mkF m q0 L S))) : Go p e below Φ (T.setTop (mkF m pc L (.int x :: S))) := g_if0 hA hx hd ho hq hq0 (fun h => k1 (rel_gt.1 h)) (fun h => k0 (rel_gt.2 h))
theorem rell_gt {x y : Int64} : (if_icmp.holds .gt (lcmpW x y) 0 = true → y.toInt < x.toInt) ∧ (if_icmp.holds .gt (lcmpW x y) 0 = false → x.toInt ≤ y.toInt) := by
  have q := c_lcmp x y
  constructor <;> intro h
  · have h' := (rel_gt (x := lcmpW x y) (y := 0)).1 h; rw [show (0 : Int32).toInt = 0 from rfl] at h'; generalize lcmpW x y = w at *; omega
  · have h' := (rel_gt (x := lcmpW x y) (y := 0)).2 h; rw [show (0 : Int32).toInt = 0 from rfl] at h'; generalize lcmpW x y = w at *; omega
theorem g_lcmp_gt (hA : At T m c below) (hx : p.tables.exec = Jvm.exec) {o : Int} {q1 q0 : Nat} {x y : Int64} (hd : decode c.code pc = .ok (.lcmp, 1)) (hq1 : pc + 1 = q1) (hd' : decode c.code q1 = .ok (.ifCond .gt o, 3)) (ho : 0 ≤ (q1 : Int) + o) (hq : ((q1 : Int) + o).toNat = q) (hq0 : q1 + 3 = q0) (k1 : y.toInt < x.toInt → Go p e below Φ (T.setTop (mkF m q L S))) (k0 : x.toInt ≤ y.toInt → Go p e below Φ (T.setTop (mkF m q0 L S))) : Go p e below Φ (T.setTop (mkF m pc L (.long y :: .long x :: S))) := g_lcmp hA hx hd hq1 (g_if0 hA hx hd' ho hq hq0 (fun h => k1 (rell_gt.1 h)) (fun h => k0 (rell_gt.2 h)))
theorem rel_le {x y : Int32} : (if_icmp.holds .le x y = true → x.toInt ≤ y.toInt) ∧ (if_icmp.holds .le x y = false → y.toInt < x.toInt) := by
  constructor <;> intro h <;> simp [if_icmp.holds, Int32.lt_iff_toInt_lt, Int32.le_iff_toInt_le, ← Int32.toInt_inj] at h <;> omega
theorem g_icmp_le (hA : At T m c below) (hx : p.tables.exec = Jvm.exec) {o : Int} {q0 : Nat} {x y : Int32} (hd : decode c.code pc = .ok (.if_icmp .le o, 3)) (ho : 0 ≤ (pc : Int) + o) (hq : ((pc : Int) + o).toNat = q) (hq0 : pc + 3 = q0) (k1 : x.toInt ≤ y.toInt → Go p e below Φ (T.setTop (mkF m q L S))) (k0 : y.toInt < x.toInt → Go p e below Φ (T.setTop (mkF m q0 L S))) : Go p e below Φ (T.setTop (mkF m pc L (.int y :: .int x :: S))) := g_icmp hA hx hd ho hq hq0 (fun h => k1 (rel_le.1 h)) (fun h => k0 (rel_le.2 h))
theorem g_if_le (hA : At T m c below) (hx : p.tables.exec = Jvm.exec) {o : Int} {q0 : Nat} {x : Int32} (hd : decode c.code pc = .ok (.ifCond .le o, 3)) (ho : 0 ≤ (pc : Int) + o) (hq : ((pc : Int) + o).toNat = q) (hq0 : pc + 3 = q0) (k1 : x.toInt ≤ 0 → Go p e below Φ (T.setTop (mkF m q L S))) (k0 : 0 < x.toInt → Go p e below Φ (T.setTop (mkF m q0 L S))) : Go p e below Φ (T.setTop (mkF m pc L (.int x :: S))) := g_if0 hA hx hd ho hq hq0 (fun h => k1 (rel_le.1 h)) (fun h => k0 (rel_le.2 h))
theorem rell_le {x y : Int64} : (if_icmp.holds .le (lcmpW x y) 0 = true → x.toInt ≤ y.toInt) ∧ (if_icmp.holds .le (lcmpW x y) 0 = false → y.toInt < x.toInt) := by
  have q := c_lcmp x y
  constructor <;> intro h
  · have h' := (rel_le (x := lcmpW x y) (y := 0)).1 h; rw [show (0 : Int32).toInt = 0 from rfl] at h'; generalize lcmpW x y = w at *; omega
  · have h' := (rel_le (x := lcmpW x y) (y := 0)).2 h; rw [show (0 : Int32).toInt = 0 from rfl] at h'; generalize lcmpW x y = w at *; omega
theorem g_lcmp_le (hA : At T m c below) (hx : p.tables.exec = Jvm.exec) {o : Int} {q1 q0 : Nat} {x y : Int64} (hd : decode c.code pc = .ok (.lcmp, 1)) (hq1 : pc + 1 = q1) (hd' : decode c.code q1 = .ok (.ifCond .le o, 3)) (ho : 0 ≤ (q1 : Int) + o) (hq : ((q1 : Int) + o).toNat = q) (hq0 : q1 + 3 = q0) (k1 : x.toInt ≤ y.toInt → Go p e below Φ (T.setTop (mkF m q L S))) (k0 : y.toInt < x.toInt → Go p e below Φ (T.setTop (mkF m q0 L S))) : Go p e below Φ (T.setTop (mkF m pc L (.long y :: .long x :: S))) := g_lcmp hA hx hd hq1 (g_if0 hA hx hd' ho hq hq0 (fun h => k1 (rell_le.1 h)) (fun h => k0 (rell_le.2 h)))
theorem g_ifB_ne (hA : At T m c below) (hx : p.tables.exec = Jvm.exec) {o : Int} {q0 : Nat} {b : Bool} (hd : decode c.code pc = .ok (.ifCond .ne o, 3)) (ho : 0 ≤ (pc : Int) + o) (hq : ((pc : Int) + o).toNat = q) (hq0 : pc + 3 = q0) (k1 : b = true → Go p e below Φ (T.setTop (mkF m q L S))) (k0 : b = false → Go p e below Φ (T.setTop (mkF m q0 L S))) : Go p e below Φ (T.setTop (mkF m pc L (.int (b2i b) :: S))) := g_if0 hA hx hd ho hq hq0 (fun h => k1 (by cases b <;> first | rfl | exact Bool.noConfusion h)) (fun h => k0 (by cases b <;> first | rfl | exact Bool.noConfusion h))
theorem g_ifB_eq (hA : At T m c below) (hx : p.tables.exec = Jvm.exec) {o : Int} {q0 : Nat} {b : Bool} (hd : decode c.code pc = .ok (.ifCond .eq o, 3)) (ho : 0 ≤ (pc : Int) + o) (hq : ((pc : Int) + o).toNat = q) (hq0 : pc + 3 = q0) (k1 : b = false → Go p e below Φ (T.setTop (mkF m q L S))) (k0 : b = true → Go p e below Φ (T.setTop (mkF m q0 L S))) : Go p e below Φ (T.setTop (mkF m pc L (.int (b2i b) :: S))) := g_if0 hA hx hd ho hq hq0 (fun h => k1 (by cases b <;> first | rfl | exact Bool.noConfusion h)) (fun h => k0 (by cases b <;> first | rfl | exact Bool.noConfusion h))
theorem g_sel_icmp_eq (hA : At T m c below) (hx : p.tables.exec = Jvm.exec) {o o' : Int} {z t t' : Nat} {x y : Int32} (hd : decode c.code pc = .ok (.if_icmp .eq o, 3)) (ho : 0 ≤ (pc : Int) + o) (hz' : ((pc : Int) + o).toNat = z) (ht0 : pc + 3 = t) (hz : decode c.code z = .ok (.iconst 0, 1)) (ht : decode c.code t = .ok (.iconst 1, 1)) (hg : decode c.code t' = .ok (.goto o', 3)) (ht' : t + 1 = t') (hog : 0 ≤ (t' : Int) + o') (hj : ((t' : Int) + o').toNat = q) (hj' : z + 1 = q) (k : Go p e below Φ (T.setTop (mkF m q L (.int (b2i (decide (x.toInt ≠ y.toInt))) :: S)))) : Go p e below Φ (T.setTop (mkF m pc L (.int y :: .int x :: S))) :=
  g_icmp_eq hA hx hd ho hz' ht0 (fun h => g_iconst hA hx hz rfl hj' (by rw [show decide (x.toInt ≠ y.toInt) = false from decide_eq_false (by omega)] at k; exact k)) (fun h => g_iconst hA hx ht rfl ht' (g_goto hA hx hg hog hj (by rw [show decide (x.toInt ≠ y.toInt) = true from decide_eq_true (by omega)] at k; exact k)))
theorem g_sel_icmp_ne (hA : At T m c below) (hx : p.tables.exec = Jvm.exec) {o o' : Int} {z t t' : Nat} {x y : Int32} (hd : decode c.code pc = .ok (.if_icmp .ne o, 3)) (ho : 0 ≤ (pc : Int) + o) (hz' : ((pc : Int) + o).toNat = z) (ht0 : pc + 3 = t) (hz : decode c.code z = .ok (.iconst 0, 1)) (ht : decode c.code t = .ok (.iconst 1, 1)) (hg : decode c.code t' = .ok (.goto o', 3)) (ht' : t + 1 = t') (hog : 0 ≤ (t' : Int) + o') (hj : ((t' : Int) + o').toNat = q) (hj' : z + 1 = q) (k : Go p e below Φ (T.setTop (mkF m q L (.int (b2i (decide (x.toInt = y.toInt))) :: S)))) : Go p e below Φ (T.setTop (mkF m pc L (.int y :: .int x :: S))) :=
  g_icmp_ne hA hx hd ho hz' ht0 (fun h => g_iconst hA hx hz rfl hj' (by rw [show decide (x.toInt = y.toInt) = false from decide_eq_false (by omega)] at k; exact k)) (fun h => g_iconst hA hx ht rfl ht' (g_goto hA hx hg hog hj (by rw [show decide (x.toInt = y.toInt) = true from decide_eq_true (by omega)] at k; exact k)))
theorem g_sel_icmp_lt (hA : At T m c below) (hx : p.tables.exec = Jvm.exec) {o o' : Int} {z t t' : Nat} {x y : Int32} (hd : decode c.code pc = .ok (.if_icmp .lt o, 3)) (ho : 0 ≤ (pc : Int) + o) (hz' : ((pc : Int) + o).toNat = z) (ht0 : pc + 3 = t) (hz : decode c.code z = .ok (.iconst 0, 1)) (ht : decode c.code t = .ok (.iconst 1, 1)) (hg : decode c.code t' = .ok (.goto o', 3)) (ht' : t + 1 = t') (hog : 0 ≤ (t' : Int) + o') (hj : ((t' : Int) + o').toNat = q) (hj' : z + 1 = q) (k : Go p e below Φ (T.setTop (mkF m q L (.int (b2i (decide (y.toInt ≤ x.toInt))) :: S)))) : Go p e below Φ (T.setTop (mkF m pc L (.int y :: .int x :: S))) :=
  g_icmp_lt hA hx hd ho hz' ht0 (fun h => g_iconst hA hx hz rfl hj' (by rw [show decide (y.toInt ≤ x.toInt) = false from decide_eq_false (by omega)] at k; exact k)) (fun h => g_iconst hA hx ht rfl ht' (g_goto hA hx hg hog hj (by rw [show decide (y.toInt ≤ x.toInt) = true from decide_eq_true (by omega)] at k; exact k)))
theorem g_sel_icmp_ge (hA : At T m c below) (hx : p.tables.exec = Jvm.exec) {o o' : Int} {z t t' : Nat} {x y : Int32} (hd : decode c.code pc = .ok (.if_icmp .ge o, 3)) (ho : 0 ≤ (pc : Int) + o) (hz' : ((pc : Int) + o).toNat = z) (ht0 : pc + 3 = t) (hz : decode c.code z = .ok (.iconst 0, 1)) (ht : decode c.code t = .ok (.iconst 1, 1)) (hg : decode c.code t' = .ok (.goto o', 3)) (ht' : t + 1 = t') (hog : 0 ≤ (t' : Int) + o') (hj : ((t' : Int) + o').toNat = q) (hj' : z + 1 = q) (k : Go p e below Φ (T.setTop (mkF m q L (.int (b2i (decide (x.toInt < y.toInt))) :: S)))) : Go p e below Φ (T.setTop (mkF m pc L (.int y :: .int x :: S))) :=
  g_icmp_ge hA hx hd ho hz' ht0 (fun h => g_iconst hA hx hz rfl hj' (by rw [show decide (x.toInt < y.toInt) = false from decide_eq_false (by omega)] at k; exact k)) (fun h => g_iconst hA hx ht rfl ht' (g_goto hA hx hg hog hj (by rw [show decide (x.toInt < y.toInt) = true from decide_eq_true (by omega)] at k; exact k)))
theorem g_sel_icmp_gt (hA : At T m c below) (hx : p.tables.exec = Jvm.exec) {o o' : Int} {z t t' : Nat} {x y : Int32} (hd : decode c.code pc = .ok (.if_icmp .gt o, 3)) (ho : 0 ≤ (pc : Int) + o) (hz' : ((pc : Int) + o).toNat = z) (ht0 : pc + 3 = t) (hz : decode c.code z = .ok (.iconst 0, 1)) (ht : decode c.code t = .ok (.iconst 1, 1)) (hg : decode c.code t' = .ok (.goto o', 3)) (ht' : t + 1 = t') (hog : 0 ≤ (t' : Int) + o') (hj : ((t' : Int) + o').toNat = q) (hj' : z + 1 = q) (k : Go p e below Φ (T.setTop (mkF m q L (.int (b2i (decide (x.toInt ≤ y.toInt))) :: S)))) : Go p e below Φ (T.setTop (mkF m pc L (.int y :: .int x :: S))) :=
  g_icmp_gt hA hx hd ho hz' ht0 (fun h => g_iconst hA hx hz rfl hj' (by rw [show decide (x.toInt ≤ y.toInt) = false from decide_eq_false (by omega)] at k; exact k)) (fun h => g_iconst hA hx ht rfl ht' (g_goto hA hx hg hog hj (by rw [show decide (x.toInt ≤ y.toInt) = true from decide_eq_true (by omega)] at k; exact k)))
theorem g_sel_icmp_le (hA : At T m c below) (hx : p.tables.exec = Jvm.exec) {o o' : Int} {z t t' : Nat} {x y : Int32} (hd : decode c.code pc = .ok (.if_icmp .le o, 3)) (ho : 0 ≤ (pc : Int) + o) (hz' : ((pc : Int) + o).toNat = z) (ht0 : pc + 3 = t) (hz : decode c.code z = .ok (.iconst 0, 1)) (ht : decode c.code t = .ok (.iconst 1, 1)) (hg : decode c.code t' = .ok (.goto o', 3)) (ht' : t + 1 = t') (hog : 0 ≤ (t' : Int) + o') (hj : ((t' : Int) + o').toNat = q) (hj' : z + 1 = q) (k : Go p e below Φ (T.setTop (mkF m q L (.int (b2i (decide (y.toInt < x.toInt))) :: S)))) : Go p e below Φ (T.setTop (mkF m pc L (.int y :: .int x :: S))) :=
  g_icmp_le hA hx hd ho hz' ht0 (fun h => g_iconst hA hx hz rfl hj' (by rw [show decide (y.toInt < x.toInt) = false from decide_eq_false (by omega)] at k; exact k)) (fun h => g_iconst hA hx ht rfl ht' (g_goto hA hx hg hog hj (by rw [show decide (y.toInt < x.toInt) = true from decide_eq_true (by omega)] at k; exact k)))
theorem g_sel_if_eq (hA : At T m c below) (hx : p.tables.exec = Jvm.exec) {o o' : Int} {z t t' : Nat} {x : Int32} (hd : decode c.code pc = .ok (.ifCond .eq o, 3)) (ho : 0 ≤ (pc : Int) + o) (hz' : ((pc : Int) + o).toNat = z) (ht0 : pc + 3 = t) (hz : decode c.code z = .ok (.iconst 0, 1)) (ht : decode c.code t = .ok (.iconst 1, 1)) (hg : decode c.code t' = .ok (.goto o', 3)) (ht' : t + 1 = t') (hog : 0 ≤ (t' : Int) + o') (hj : ((t' : Int) + o').toNat = q) (hj' : z + 1 = q) (k : Go p e below Φ (T.setTop (mkF m q L (.int (b2i (decide (x.toInt ≠ 0))) :: S)))) : Go p e below Φ (T.setTop (mkF m pc L (.int x :: S))) :=
  g_if_eq hA hx hd ho hz' ht0 (fun h => g_iconst hA hx hz rfl hj' (by rw [show decide (x.toInt ≠ 0) = false from decide_eq_false (by omega)] at k; exact k)) (fun h => g_iconst hA hx ht rfl ht' (g_goto hA hx hg hog hj (by rw [show decide (x.toInt ≠ 0) = true from decide_eq_true (by omega)] at k; exact k)))
theorem g_sel_if_ne (hA : At T m c below) (hx : p.tables.exec = Jvm.exec) {o o' : Int} {z t t' : Nat} {x : Int32} (hd : decode c.code pc = .ok (.ifCond .ne o, 3)) (ho : 0 ≤ (pc : Int) + o) (hz' : ((pc : Int) + o).toNat = z) (ht0 : pc + 3 = t) (hz : decode c.code z = .ok (.iconst 0, 1)) (ht : decode c.code t = .ok (.iconst 1, 1)) (hg : decode c.code t' = .ok (.goto o', 3)) (ht' : t + 1 = t') (hog : 0 ≤ (t' : Int) + o') (hj : ((t' : Int) + o').toNat = q) (hj' : z + 1 = q) (k : Go p e below Φ (T.setTop (mkF m q L (.int (b2i (decide (x.toInt = 0))) :: S)))) : Go p e below Φ (T.setTop (mkF m pc L (.int x :: S))) :=
  g_if_ne hA hx hd ho hz' ht0 (fun h => g_iconst hA hx hz rfl hj' (by rw [show decide (x.toInt = 0) = false from decide_eq_false (by omega)] at k; exact k)) (fun h => g_iconst hA hx ht rfl ht' (g_goto hA hx hg hog hj (by rw [show decide (x.toInt = 0) = true from decide_eq_true (by omega)] at k; exact k)))
theorem g_sel_if_lt (hA : At T m c below) (hx : p.tables.exec = Jvm.exec) {o o' : Int} {z t t' : Nat} {x : Int32} (hd : decode c.code pc = .ok (.ifCond .lt o, 3)) (ho : 0 ≤ (pc : Int) + o) (hz' : ((pc : Int) + o).toNat = z) (ht0 : pc + 3 = t) (hz : decode c.code z = .ok (.iconst 0, 1)) (ht : decode c.code t = .ok (.iconst 1, 1)) (hg : decode c.code t' = .ok (.goto o', 3)) (ht' : t + 1 = t') (hog : 0 ≤ (t' : Int) + o') (hj : ((t' : Int) + o').toNat = q) (hj' : z + 1 = q) (k : Go p e below Φ (T.setTop (mkF m q L (.int (b2i (decide (0 ≤ x.toInt))) :: S)))) : Go p e below Φ (T.setTop (mkF m pc L (.int x :: S))) :=
  g_if_lt hA hx hd ho hz' ht0 (fun h => g_iconst hA hx hz rfl hj' (by rw [show decide (0 ≤ x.toInt) = false from decide_eq_false (by omega)] at k; exact k)) (fun h => g_iconst hA hx ht rfl ht' (g_goto hA hx hg hog hj (by rw [show decide (0 ≤ x.toInt) = true from decide_eq_true (by omega)] at k; exact k)))
theorem g_sel_if_ge (hA : At T m c below) (hx : p.tables.exec = Jvm.exec) {o o' : Int} {z t t' : Nat} {x : Int32} (hd : decode c.code pc = .ok (.ifCond .ge o, 3)) (ho : 0 ≤ (pc : Int) + o) (hz' : ((pc : Int) + o).toNat = z) (ht0 : pc + 3 = t) (hz : decode c.code z = .ok (.iconst 0, 1)) (ht : decode c.code t = .ok (.iconst 1, 1)) (hg : decode c.code t' = .ok (.goto o', 3)) (ht' : t + 1 = t') (hog : 0 ≤ (t' : Int) + o') (hj : ((t' : Int) + o').toNat = q) (hj' : z + 1 = q) (k : Go p e below Φ (T.setTop (mkF m q L (.int (b2i (decide (x.toInt < 0))) :: S)))) : Go p e below Φ (T.setTop (mkF m pc L (.int x :: S))) :=
  g_if_ge hA hx hd ho hz' ht0 (fun h => g_iconst hA hx hz rfl hj' (by rw [show decide (x.toInt < 0) = false from decide_eq_false (by omega)] at k; exact k)) (fun h => g_iconst hA hx ht rfl ht' (g_goto hA hx hg hog hj (by rw [show decide (x.toInt < 0) = true from decide_eq_true (by omega)] at k; exact k)))
theorem g_sel_if_gt (hA : At T m c below) (hx : p.tables.exec = Jvm.exec) {o o' : Int} {z t t' : Nat} {x : Int32} (hd : decode c.code pc = .ok (.ifCond .gt o, 3)) (ho : 0 ≤ (pc : Int) + o) (hz' : ((pc : Int) + o).toNat = z) (ht0 : pc + 3 = t) (hz : decode c.code z = .ok (.iconst 0, 1)) (ht : decode c.code t = .ok (.iconst 1, 1)) (hg : decode c.code t' = .ok (.goto o', 3)) (ht' : t + 1 = t') (hog : 0 ≤ (t' : Int) + o') (hj : ((t' : Int) + o').toNat = q) (hj' : z + 1 = q) (k : Go p e below Φ (T.setTop (mkF m q L (.int (b2i (decide (x.toInt ≤ 0))) :: S)))) : Go p e below Φ (T.setTop (mkF m pc L (.int x :: S))) :=
  g_if_gt hA hx hd ho hz' ht0 (fun h => g_iconst hA hx hz rfl hj' (by rw [show decide (x.toInt ≤ 0) = false from decide_eq_false (by omega)] at k; exact k)) (fun h => g_iconst hA hx ht rfl ht' (g_goto hA hx hg hog hj (by rw [show decide (x.toInt ≤ 0) = true from decide_eq_true (by omega)] at k; exact k)))
theorem g_sel_if_le (hA : At T m c below) (hx : p.tables.exec = Jvm.exec) {o o' : Int} {z t t' : Nat} {x : Int32} (hd : decode c.code pc = .ok (.ifCond .le o, 3)) (ho : 0 ≤ (pc : Int) + o) (hz' : ((pc : Int) + o).toNat = z) (ht0 : pc + 3 = t) (hz : decode c.code z = .ok (.iconst 0, 1)) (ht : decode c.code t = .ok (.iconst 1, 1)) (hg : decode c.code t' = .ok (.goto o', 3)) (ht' : t + 1 = t') (hog : 0 ≤ (t' : Int) + o') (hj : ((t' : Int) + o').toNat = q) (hj' : z + 1 = q) (k : Go p e below Φ (T.setTop (mkF m q L (.int (b2i (decide (0 < x.toInt))) :: S)))) : Go p e below Φ (T.setTop (mkF m pc L (.int x :: S))) :=
  g_if_le hA hx hd ho hz' ht0 (fun h => g_iconst hA hx hz rfl hj' (by rw [show decide (0 < x.toInt) = false from decide_eq_false (by omega)] at k; exact k)) (fun h => g_iconst hA hx ht rfl ht' (g_goto hA hx hg hog hj (by rw [show decide (0 < x.toInt) = true from decide_eq_true (by omega)] at k; exact k)))
theorem g_sel_lcmp_eq (hA : At T m c below) (hx : p.tables.exec = Jvm.exec) {o o' : Int} {q1 z t t' : Nat} {x y : Int64} (hd : decode c.code pc = .ok (.lcmp, 1)) (hq1 : pc + 1 = q1) (hd' : decode c.code q1 = .ok (.ifCond .eq o, 3)) (ho : 0 ≤ (q1 : Int) + o) (hz' : ((q1 : Int) + o).toNat = z) (ht0 : q1 + 3 = t) (hz : decode c.code z = .ok (.iconst 0, 1)) (ht : decode c.code t = .ok (.iconst 1, 1)) (hg : decode c.code t' = .ok (.goto o', 3)) (ht' : t + 1 = t') (hog : 0 ≤ (t' : Int) + o') (hj : ((t' : Int) + o').toNat = q) (hj' : z + 1 = q) (k : Go p e below Φ (T.setTop (mkF m q L (.int (b2i (decide (x.toInt ≠ y.toInt))) :: S)))) : Go p e below Φ (T.setTop (mkF m pc L (.long y :: .long x :: S))) :=
  g_lcmp_eq hA hx hd hq1 hd' ho hz' ht0 (fun h => g_iconst hA hx hz rfl hj' (by rw [show decide (x.toInt ≠ y.toInt) = false from decide_eq_false (by omega)] at k; exact k)) (fun h => g_iconst hA hx ht rfl ht' (g_goto hA hx hg hog hj (by rw [show decide (x.toInt ≠ y.toInt) = true from decide_eq_true (by omega)] at k; exact k)))
theorem g_sel_lcmp_ne (hA : At T m c below) (hx : p.tables.exec = Jvm.exec) {o o' : Int} {q1 z t t' : Nat} {x y : Int64} (hd : decode c.code pc = .ok (.lcmp, 1)) (hq1 : pc + 1 = q1) (hd' : decode c.code q1 = .ok (.ifCond .ne o, 3)) (ho : 0 ≤ (q1 : Int) + o) (hz' : ((q1 : Int) + o).toNat = z) (ht0 : q1 + 3 = t) (hz : decode c.code z = .ok (.iconst 0, 1)) (ht : decode c.code t = .ok (.iconst 1, 1)) (hg : decode c.code t' = .ok (.goto o', 3)) (ht' : t + 1 = t') (hog : 0 ≤ (t' : Int) + o') (hj : ((t' : Int) + o').toNat = q) (hj' : z + 1 = q) (k : Go p e below Φ (T.setTop (mkF m q L (.int (b2i (decide (x.toInt = y.toInt))) :: S)))) : Go p e below Φ (T.setTop (mkF m pc L (.long y :: .long x :: S))) :=
  g_lcmp_ne hA hx hd hq1 hd' ho hz' ht0 (fun h => g_iconst hA hx hz rfl hj' (by rw [show decide (x.toInt = y.toInt) = false from decide_eq_false (by omega)] at k; exact k)) (fun h => g_iconst hA hx ht rfl ht' (g_goto hA hx hg hog hj (by rw [show decide (x.toInt = y.toInt) = true from decide_eq_true (by omega)] at k; exact k)))
theorem g_sel_lcmp_lt (hA : At T m c below) (hx : p.tables.exec = Jvm.exec) {o o' : Int} {q1 z t t' : Nat} {x y : Int64} (hd : decode c.code pc = .ok (.lcmp, 1)) (hq1 : pc + 1 = q1) (hd' : decode c.code q1 = .ok (.ifCond .lt o, 3)) (ho : 0 ≤ (q1 : Int) + o) (hz' : ((q1 : Int) + o).toNat = z) (ht0 : q1 + 3 = t) (hz : decode c.code z = .ok (.iconst 0, 1)) (ht : decode c.code t = .ok (.iconst 1, 1)) (hg : decode c.code t' = .ok (.goto o', 3)) (ht' : t + 1 = t') (hog : 0 ≤ (t' : Int) + o') (hj : ((t' : Int) + o').toNat = q) (hj' : z + 1 = q) (k : Go p e below Φ (T.setTop (mkF m q L (.int (b2i (decide (y.toInt ≤ x.toInt))) :: S)))) : Go p e below Φ (T.setTop (mkF m pc L (.long y :: .long x :: S))) :=
  g_lcmp_lt hA hx hd hq1 hd' ho hz' ht0 (fun h => g_iconst hA hx hz rfl hj' (by rw [show decide (y.toInt ≤ x.toInt) = false from decide_eq_false (by omega)] at k; exact k)) (fun h => g_iconst hA hx ht rfl ht' (g_goto hA hx hg hog hj (by rw [show decide (y.toInt ≤ x.toInt) = true from decide_eq_true (by omega)] at k; exact k)))
theorem g_sel_lcmp_ge (hA : At T m c below) (hx : p.tables.exec = Jvm.exec) {o o' : Int} {q1 z t t' : Nat} {x y : Int64} (hd : decode c.code pc = .ok (.lcmp, 1)) (hq1 : pc + 1 = q1) (hd' : decode c.code q1 = .ok (.ifCond .ge o, 3)) (ho : 0 ≤ (q1 : Int) + o) (hz' : ((q1 : Int) + o).toNat = z) (ht0 : q1 + 3 = t) (hz : decode c.code z = .ok (.iconst 0, 1)) (ht : decode c.code t = .ok (.iconst 1, 1)) (hg : decode c.code t' = .ok (.goto o', 3)) (ht' : t + 1 = t') (hog : 0 ≤ (t' : Int) + o') (hj : ((t' : Int) + o').toNat = q) (hj' : z + 1 = q) (k : Go p e below Φ (T.setTop (mkF m q L (.int (b2i (decide (x.toInt < y.toInt))) :: S)))) : Go p e below Φ (T.setTop (mkF m pc L (.long y :: .long x :: S))) :=
  g_lcmp_ge hA hx hd hq1 hd' ho hz' ht0 (fun h => g_iconst hA hx hz rfl hj' (by rw [show decide (x.toInt < y.toInt) = false from decide_eq_false (by omega)] at k; exact k)) (fun h => g_iconst hA hx ht rfl ht' (g_goto hA hx hg hog hj (by rw [show decide (x.toInt < y.toInt) = true from decide_eq_true (by omega)] at k; exact k)))
theorem g_sel_lcmp_gt (hA : At T m c below) (hx : p.tables.exec = Jvm.exec) {o o' : Int} {q1 z t t' : Nat} {x y : Int64} (hd : decode c.code pc = .ok (.lcmp, 1)) (hq1 : pc + 1 = q1) (hd' : decode c.code q1 = .ok (.ifCond .gt o, 3)) (ho : 0 ≤ (q1 : Int) + o) (hz' : ((q1 : Int) + o).toNat = z) (ht0 : q1 + 3 = t) (hz : decode c.code z = .ok (.iconst 0, 1)) (ht : decode c.code t = .ok (.iconst 1, 1)) (hg : decode c.code t' = .ok (.goto o', 3)) (ht' : t + 1 = t') (hog : 0 ≤ (t' : Int) + o') (hj : ((t' : Int) + o').toNat = q) (hj' : z + 1 = q) (k : Go p e below Φ (T.setTop (mkF m q L (.int (b2i (decide (x.toInt ≤ y.toInt))) :: S)))) : Go p e below Φ (T.setTop (mkF m pc L (.long y :: .long x :: S))) :=
  g_lcmp_gt hA hx hd hq1 hd' ho hz' ht0 (fun h => g_iconst hA hx hz rfl hj' (by rw [show decide (x.toInt ≤ y.toInt) = false from decide_eq_false (by omega)] at k; exact k)) (fun h => g_iconst hA hx ht rfl ht' (g_goto hA hx hg hog hj (by rw [show decide (x.toInt ≤ y.toInt) = true from decide_eq_true (by omega)] at k; exact k)))
theorem g_sel_lcmp_le (hA : At T m c below) (hx : p.tables.exec = Jvm.exec) {o o' : Int} {q1 z t t' : Nat} {x y : Int64} (hd : decode c.code pc = .ok (.lcmp, 1)) (hq1 : pc + 1 = q1) (hd' : decode c.code q1 = .ok (.ifCond .le o, 3)) (ho : 0 ≤ (q1 : Int) + o) (hz' : ((q1 : Int) + o).toNat = z) (ht0 : q1 + 3 = t) (hz : decode c.code z = .ok (.iconst 0, 1)) (ht : decode c.code t = .ok (.iconst 1, 1)) (hg : decode c.code t' = .ok (.goto o', 3)) (ht' : t + 1 = t') (hog : 0 ≤ (t' : Int) + o') (hj : ((t' : Int) + o').toNat = q) (hj' : z + 1 = q) (k : Go p e below Φ (T.setTop (mkF m q L (.int (b2i (decide (y.toInt < x.toInt))) :: S)))) : Go p e below Φ (T.setTop (mkF m pc L (.long y :: .long x :: S))) :=
  g_lcmp_le hA hx hd hq1 hd' ho hz' ht0 (fun h => g_iconst hA hx hz rfl hj' (by rw [show decide (y.toInt < x.toInt) = false from decide_eq_false (by omega)] at k; exact k)) (fun h => g_iconst hA hx ht rfl ht' (g_goto hA hx hg hog hj (by rw [show decide (y.toInt < x.toInt) = true from decide_eq_true (by omega)] at k; exact k)))
theorem g_selB_ne (hA : At T m c below) (hx : p.tables.exec = Jvm.exec) {o o' : Int} {z t t' : Nat} {b : Bool} (hd : decode c.code pc = .ok (.ifCond .ne o, 3)) (ho : 0 ≤ (pc : Int) + o) (hz' : ((pc : Int) + o).toNat = z) (ht0 : pc + 3 = t) (hz : decode c.code z = .ok (.iconst 0, 1)) (ht : decode c.code t = .ok (.iconst 1, 1)) (hg : decode c.code t' = .ok (.goto o', 3)) (ht' : t + 1 = t') (hog : 0 ≤ (t' : Int) + o') (hj : ((t' : Int) + o').toNat = q) (hj' : z + 1 = q) (k : Go p e below Φ (T.setTop (mkF m q L (.int (b2i (!b)) :: S)))) : Go p e below Φ (T.setTop (mkF m pc L (.int (b2i b) :: S))) :=
  g_ifB_ne hA hx hd ho hz' ht0 (fun h => g_iconst hA hx hz rfl hj' (by subst h; exact k)) (fun h => g_iconst hA hx ht rfl ht' (g_goto hA hx hg hog hj (by subst h; exact k)))
theorem g_selB_eq (hA : At T m c below) (hx : p.tables.exec = Jvm.exec) {o o' : Int} {z t t' : Nat} {b : Bool} (hd : decode c.code pc = .ok (.ifCond .eq o, 3)) (ho : 0 ≤ (pc : Int) + o) (hz' : ((pc : Int) + o).toNat = z) (ht0 : pc + 3 = t) (hz : decode c.code z = .ok (.iconst 0, 1)) (ht : decode c.code t = .ok (.iconst 1, 1)) (hg : decode c.code t' = .ok (.goto o', 3)) (ht' : t + 1 = t') (hog : 0 ≤ (t' : Int) + o') (hj : ((t' : Int) + o').toNat = q) (hj' : z + 1 = q) (k : Go p e below Φ (T.setTop (mkF m q L (.int (b2i (b)) :: S)))) : Go p e below Φ (T.setTop (mkF m pc L (.int (b2i b) :: S))) :=
  g_ifB_eq hA hx hd ho hz' ht0 (fun h => g_iconst hA hx hz rfl hj' (by subst h; exact k)) (fun h => g_iconst hA hx ht rfl ht' (g_goto hA hx hg hog hj (by subst h; exact k)))
theorem g_selBB_ne (hA : At T m c below) (hx : p.tables.exec = Jvm.exec) {o o' : Int} {z t t' : Nat} {a b : Bool} (hd : decode c.code pc = .ok (.if_icmp .ne o, 3)) (ho : 0 ≤ (pc : Int) + o) (hz' : ((pc : Int) + o).toNat = z) (ht0 : pc + 3 = t) (hz : decode c.code z = .ok (.iconst 0, 1)) (ht : decode c.code t = .ok (.iconst 1, 1)) (hg : decode c.code t' = .ok (.goto o', 3)) (ht' : t + 1 = t') (hog : 0 ≤ (t' : Int) + o') (hj : ((t' : Int) + o').toNat = q) (hj' : z + 1 = q) (k : Go p e below Φ (T.setTop (mkF m q L (.int (b2i (a == b)) :: S)))) : Go p e below Φ (T.setTop (mkF m pc L (.int (b2i b) :: .int (b2i a) :: S))) :=
  g_icmp hA hx hd ho hz' ht0 (fun h => g_iconst hA hx hz rfl hj' (by cases a <;> cases b <;> first | exact k | exact Bool.noConfusion h)) (fun h => g_iconst hA hx ht rfl ht' (g_goto hA hx hg hog hj (by cases a <;> cases b <;> first | exact k | exact Bool.noConfusion h)))
theorem g_selBB_eq (hA : At T m c below) (hx : p.tables.exec = Jvm.exec) {o o' : Int} {z t t' : Nat} {a b : Bool} (hd : decode c.code pc = .ok (.if_icmp .eq o, 3)) (ho : 0 ≤ (pc : Int) + o) (hz' : ((pc : Int) + o).toNat = z) (ht0 : pc + 3 = t) (hz : decode c.code z = .ok (.iconst 0, 1)) (ht : decode c.code t = .ok (.iconst 1, 1)) (hg : decode c.code t' = .ok (.goto o', 3)) (ht' : t + 1 = t') (hog : 0 ≤ (t' : Int) + o') (hj : ((t' : Int) + o').toNat = q) (hj' : z + 1 = q) (k : Go p e below Φ (T.setTop (mkF m q L (.int (b2i (a != b)) :: S)))) : Go p e below Φ (T.setTop (mkF m pc L (.int (b2i b) :: .int (b2i a) :: S))) :=
  g_icmp hA hx hd ho hz' ht0 (fun h => g_iconst hA hx hz rfl hj' (by cases a <;> cases b <;> first | exact k | exact Bool.noConfusion h)) (fun h => g_iconst hA hx ht rfl ht' (g_goto hA hx hg hog hj (by cases a <;> cases b <;> first | exact k | exact Bool.noConfusion h)))
theorem g_ldcI (X : Stand p l e R s m args below meth c T locs cells slots) (hx : p.tables.exec = Jvm.exec) (hZ : Z.Warmed39 s.vm) {own : String} {index : Nat} {v : Int32} (hown : s.vm.findClass own = some m.cls) (w : (Jvm.Cond.constant own index v).before a0 Z = true) (hd : decode c.code pc = .ok (.ldc index, 2)) (hq : pc + 2 = q) (k : Go p e below Φ (T.setTop (mkF m q L (.int v :: S)))) : Go p e below Φ (T.setTop (mkF m pc L S)) := by
  subst hq; exact Go.by (X.ldcInt hx hown (mvT hZ w) rfl hd) k
theorem g_ldcWI (X : Stand p l e R s m args below meth c T locs cells slots) (hx : p.tables.exec = Jvm.exec) (hZ : Z.Warmed39 s.vm) {own : String} {index : Nat} {v : Int32} (hown : s.vm.findClass own = some m.cls) (w : (Jvm.Cond.constant own index v).before a0 Z = true) (hd : decode c.code pc = .ok (.ldc_w index, 3)) (hq : pc + 3 = q) (k : Go p e below Φ (T.setTop (mkF m q L (.int v :: S)))) : Go p e below Φ (T.setTop (mkF m pc L S)) := by
  subst hq; exact Go.by (X.ldcWInt hx hown (mvT hZ w) rfl hd) k
theorem g_ldc2J (X : Stand p l e R s m args below meth c T locs cells slots) (hx : p.tables.exec = Jvm.exec) (hZ : Z.Warmed39 s.vm) {own : String} {index : Nat} {v : Int64} (hown : s.vm.findClass own = some m.cls) (w : (Jvm.Cond.constantLong own index v).before a0 Z = true) (hd : decode c.code pc = .ok (.ldc2_w index, 3)) (hq : pc + 3 = q) (k : Go p e below Φ (T.setTop (mkF m q L (.long v :: S)))) : Go p e below Φ (T.setTop (mkF m pc L S)) := by
  subst hq; exact Go.by (X.ldc2Long hx hown (mvT hZ w) rfl hd) k
theorem g_ireturn (X : Stand p l e R s m args below meth c T locs cells slots) (hx : p.tables.exec = Jvm.exec) {Q : Option Value → Heap → List Loc → Prop} {rm : Room} (hlk : meth.locks = false) {z : Int32} (hrt : meth.sig.returnType = some .int) (hd : decode c.code pc = .ok (.ireturn, 1)) (hc : cells ≤ rm.cells) (hs : slots ≤ rm.slots) (hQ : Q (some (.int z)) T.heap locs) : Go p e below (Fin0 s rm Q) (T.setTop (mkF m pc L (.int z :: S))) := by
  obtain ⟨fs, hr, hrun, hended, hW, hsame⟩ := X.leave (v := (some (.int z))) (fun h => by rw [hrt] at h; cases h) hlk
  exact ⟨_, _, retOut X hx hrt rfl (Or.inl ⟨rfl, Or.inl rfl, z, rfl⟩) hd hr, hrun, hended, _, _, rfl, hQ, ⟨_, rfl⟩, hW, hsame.mono hc hs⟩
theorem g_lreturn (X : Stand p l e R s m args below meth c T locs cells slots) (hx : p.tables.exec = Jvm.exec) {Q : Option Value → Heap → List Loc → Prop} {rm : Room} (hlk : meth.locks = false) {z : Int64} (hrt : meth.sig.returnType = some .long) (hd : decode c.code pc = .ok (.lreturn, 1)) (hc : cells ≤ rm.cells) (hs : slots ≤ rm.slots) (hQ : Q (some (.long z)) T.heap locs) : Go p e below (Fin0 s rm Q) (T.setTop (mkF m pc L (.long z :: S))) := by
  obtain ⟨fs, hr, hrun, hended, hW, hsame⟩ := X.leave (v := (some (.long z))) (fun h => by rw [hrt] at h; cases h) hlk
  exact ⟨_, _, retOut X hx hrt rfl (Or.inr (Or.inl ⟨rfl, rfl, z, rfl⟩)) hd hr, hrun, hended, _, _, rfl, hQ, ⟨_, rfl⟩, hW, hsame.mono hc hs⟩
theorem g_areturn (X : Stand p l e R s m args below meth c T locs cells slots) (hx : p.tables.exec = Jvm.exec) {Q : Option Value → Heap → List Loc → Prop} {rm : Room} (hlk : meth.locks = false) {w : Value} {t : FieldType} (hw : w.isRef = true) (hrt : meth.sig.returnType = some t) (ht : t.isReference = true) (hd : decode c.code pc = .ok (.areturn, 1)) (hc : cells ≤ rm.cells) (hs : slots ≤ rm.slots) (hQ : Q (some w) T.heap locs) : Go p e below (Fin0 s rm Q) (T.setTop (mkF m pc L (w :: S))) := by
  obtain ⟨fs, hr, hrun, hended, hW, hsame⟩ := X.leave (v := (some w)) (fun h => by rw [hrt] at h; cases h) hlk
  exact ⟨_, _, retOut X hx hrt (by cases t <;> first | rfl | cases ht) (Or.inr (Or.inr (Or.inr (Or.inr ⟨rfl, ht, hw⟩)))) hd hr, hrun, hended, _, _, rfl, hQ, ⟨_, rfl⟩, hW, hsame.mono hc hs⟩
theorem g_zreturn (X : Stand p l e R s m args below meth c T locs cells slots) (hx : p.tables.exec = Jvm.exec) {Q : Option Value → Heap → List Loc → Prop} {rm : Room} (hlk : meth.locks = false) {b : Bool} (hrt : meth.sig.returnType = some .boolean) (hd : decode c.code pc = .ok (.ireturn, 1)) (hc : cells ≤ rm.cells) (hs : slots ≤ rm.slots) (hQ : Q (some (.int (b2i b))) T.heap locs) : Go p e below (Fin0 s rm Q) (T.setTop (mkF m pc L (.int (b2i b) :: S))) := by
  obtain ⟨fs, hr, hrun, hended, hW, hsame⟩ := X.leave (v := (some (.int (b2i b)))) (fun h => by rw [hrt] at h; cases h) hlk
  exact ⟨_, _, retOut X hx hrt (by cases b <;> rfl) (Or.inl ⟨rfl, Or.inr (Or.inl rfl), _, rfl⟩) hd hr, hrun, hended, _, _, rfl, hQ, ⟨_, rfl⟩, hW, hsame.mono hc hs⟩
theorem g_nreturn (X : Stand p l e R s m args below meth c T locs cells slots) (hx : p.tables.exec = Jvm.exec) {Q : Option Value → Heap → List Loc → Prop} {rm : Room} (hlk : meth.locks = false) {z : Int32} {t : FieldType} (hn : narrow t (.int z) = .int z) (ht : t = .int ∨ t = .boolean ∨ t = .byte ∨ t = .char ∨ t = .short) (hrt : meth.sig.returnType = some t) (hd : decode c.code pc = .ok (.ireturn, 1)) (hc : cells ≤ rm.cells) (hs : slots ≤ rm.slots) (hQ : Q (some (.int z)) T.heap locs) : Go p e below (Fin0 s rm Q) (T.setTop (mkF m pc L (.int z :: S))) := by
  obtain ⟨fs, hr, hrun, hended, hW, hsame⟩ := X.leave (v := (some (.int z))) (fun h => by rw [hrt] at h; cases h) hlk
  exact ⟨_, _, retOut X hx hrt hn (Or.inl ⟨rfl, ht, z, rfl⟩) hd hr, hrun, hended, _, _, rfl, hQ, ⟨_, rfl⟩, hW, hsame.mono hc hs⟩
theorem g_ret (X : Stand p l e R s m args below meth c T locs cells slots) (hx : p.tables.exec = Jvm.exec) {Q : Option Value → Heap → List Loc → Prop} {rm : Room} (hlk : meth.locks = false) (hrt : meth.sig.returnType = none) (hd : decode c.code pc = .ok (.return_, 1)) (hc : cells ≤ rm.cells) (hs : slots ≤ rm.slots) (hQ : Q none T.heap locs) : Go p e below (Fin0 s rm Q) (T.setTop (mkF m pc L [])) := by
  obtain ⟨fs, hr, hrun, hended, hW, hsame⟩ := X.leave (v := none) (fun _ => rfl) hlk
  exact ⟨_, _, X.returnOut hx hrt hd hr, hrun, hended, _, _, rfl, hQ, ⟨_, rfl⟩, hW, hsame.mono hc hs⟩
theorem g_callS (X : Stand p l e R s m args below meth c T locs cells slots) (hx : p.tables.exec = Jvm.exec) (hZ : Z.Warmed39 s.vm) {own : String} {index : Nat} {y : MethodName} {bytes : ByteArray} {maxL : Nat} {ret : Option FieldType} (hown : s.vm.findClass own = some m.cls) (w1 : (Jvm.Cond.methodLink own index y).before a0 Z = true) (w2 : (Jvm.Cond.static y).before a0 Z = true) (w3 : (Jvm.Cond.initialized y.cls).before a0 Z = true) (w4 : (Jvm.Cond.code y bytes maxL ret).before a0 Z = true) (hy : y.cls ≠ "java/lang/invoke/MethodHandle" ∧ y.cls ≠ "java/lang/invoke/VarHandle")
    {rm : Room} {as' : Array Value} {Q : Option Value → Heap → List Loc → Prop} (C : Ctr l Z y bytes maxL ret rm [] as' h Q) {argsL rest : List Value} {ps : List FieldType} {rt : Option FieldType} (hpd : parseMethodDescriptor y.desc = some ⟨ps, rt⟩) (hlen : argsL.length = ps.length) (hst : S = argsL.reverse ++ rest) (has : argsL.toArray = as') (hd : decode c.code pc = .ok (.invokestatic index, 3)) (hq : pc + 3 = q) (hsz : L.size = c.maxLocals) (eT : T.heap = h)
    (hf : rm.frames + 1 ≤ R.frames) {W : Nat} (hW : (rest.map fun v => v.category).sum = W) (hl : W + (maxL + 11) + rm.locals ≤ R.locals) (hc : cells + rm.cells ≤ R.cells) (hs : slots + rm.slots ≤ R.slots)
    (k : ∀ v T' Lc, Stand p l e R s m args below meth c T' (locs ++ Lc) (cells + rm.cells) (slots + rm.slots) → Q v T'.heap Lc → Go p e below Φ (T'.setTop (mkF m q L (v.toList ++ rest)))) : Go p e below Φ (T.setTop (mkF m pc L S)) := by
  subst hq has
  obtain ⟨v, _, ⟨T', L', k', n'⟩, -, X', ⟨Lc, hQ, l1, y1, z1⟩, st⟩ := Jvm.LawKit.callS X hx (y := y) hown (mvT hZ w1) (mvT hZ w2) (mvT hZ w3) (mvT hZ w4) hy (backOf (W := W) C hZ w4 w3 hf hl) (g := mkF m pc L S) rfl hsz (argsL := argsL) (rest := rest) (lenOf hpd hlen) hst (by show 2 * 0 + _ ≤ _; omega) hd (fun _ _ => ⟨rfl, eT, hc, hs⟩)
  dsimp only [Pt.U, Pt.locs, Pt.cells, Pt.slots] at X' l1 y1 z1 st hQ
  subst l1 y1 z1
  exact Go.by st (k v T' Lc X' hQ)
theorem g_callSP (X : Stand p l e R s m args below meth c T locs cells slots) (hx : p.tables.exec = Jvm.exec) (hZ : Z.Warmed39 s.vm) {own : String} {index : Nat} {y : MethodName} {bytes : ByteArray} {maxL : Nat} {ret : Option FieldType} (hown : s.vm.findClass own = some m.cls) (w1 : (Jvm.Cond.methodLink own index y).before a0 Z = true) (w2 : (Jvm.Cond.static y).before a0 Z = true) (w3 : (Jvm.Cond.initialized y.cls).before a0 Z = true) (w4 : (Jvm.Cond.code y bytes maxL ret).before a0 Z = true) (hy : y.cls ≠ "java/lang/invoke/MethodHandle" ∧ y.cls ≠ "java/lang/invoke/VarHandle")
    {rm : Room} {as' : Array Value} {r : Value} (C : Ctr l Z y bytes maxL ret rm [] as' h (PQ r h)) {argsL rest : List Value} {ps : List FieldType} {rt : Option FieldType} (hpd : parseMethodDescriptor y.desc = some ⟨ps, rt⟩) (hlen : argsL.length = ps.length) (hst : S = argsL.reverse ++ rest) (has : argsL.toArray = as') (hd : decode c.code pc = .ok (.invokestatic index, 3)) (hq : pc + 3 = q) (hsz : L.size = c.maxLocals) (eT : T.heap = h)
    (hf : rm.frames + 1 ≤ R.frames) {W : Nat} (hW : (rest.map fun v => v.category).sum = W) (hl : W + (maxL + 11) + rm.locals ≤ R.locals) (hc : rm.cells = 0) (hs : rm.slots = 0) (hc' : cells ≤ R.cells) (hs' : slots ≤ R.slots)
    (k : ∀ T', Stand p l e R s m args below meth c T' locs cells slots → T'.heap = h → Go p e below Φ (T'.setTop (mkF m q L (r :: rest)))) : Go p e below Φ (T.setTop (mkF m pc L S)) := by
  refine g_callS X hx hZ hown w1 w2 w3 w4 hy C hpd hlen hst has hd hq hsz eT hf hW hl (by omega) (by omega) ?_
  intro v T' Lc X' hQ
  obtain ⟨rfl, e1, rfl⟩ := hQ
  rw [hc, hs, List.append_nil] at X'
  exact k T' X' e1
theorem g_callSI (X : Stand p l e R s m args below meth c T locs cells slots) (hx : p.tables.exec = Jvm.exec) (hZ : Z.Warmed39 s.vm) {own : String} {index : Nat} {y : MethodName} {bytes : ByteArray} {maxL : Nat} {ret : Option FieldType} (hown : s.vm.findClass own = some m.cls) (w1 : (Jvm.Cond.methodLink own index y).before a0 Z = true) (w2 : (Jvm.Cond.static y).before a0 Z = true) (w3 : (Jvm.Cond.initialized y.cls).before a0 Z = true) (w4 : (Jvm.Cond.code y bytes maxL ret).before a0 Z = true) (hy : y.cls ≠ "java/lang/invoke/MethodHandle" ∧ y.cls ≠ "java/lang/invoke/VarHandle")
    {rm : Room} {as' : Array Value} {P : Int32 → Prop} (C : Ctr l Z y bytes maxL ret rm [] as' h (IQ P h)) {argsL rest : List Value} {ps : List FieldType} {rt : Option FieldType} (hpd : parseMethodDescriptor y.desc = some ⟨ps, rt⟩) (hlen : argsL.length = ps.length) (hst : S = argsL.reverse ++ rest) (has : argsL.toArray = as') (hd : decode c.code pc = .ok (.invokestatic index, 3)) (hq : pc + 3 = q) (hsz : L.size = c.maxLocals) (eT : T.heap = h)
    (hf : rm.frames + 1 ≤ R.frames) {W : Nat} (hW : (rest.map fun v => v.category).sum = W) (hl : W + (maxL + 11) + rm.locals ≤ R.locals) (hc : rm.cells = 0) (hs : rm.slots = 0) (hc' : cells ≤ R.cells) (hs' : slots ≤ R.slots)
    (k : ∀ T' r, Stand p l e R s m args below meth c T' locs cells slots → T'.heap = h → P r → Go p e below Φ (T'.setTop (mkF m q L (.int r :: rest)))) : Go p e below Φ (T.setTop (mkF m pc L S)) := by
  refine g_callS X hx hZ hown w1 w2 w3 w4 hy C hpd hlen hst has hd hq hsz eT hf hW hl (by omega) (by omega) ?_
  intro v T' Lc X' hQ
  obtain ⟨r, rfl, hP, e1, rfl⟩ := hQ
  rw [hc, hs, List.append_nil] at X'
  exact k T' r X' e1 hP
theorem g_callSJ (X : Stand p l e R s m args below meth c T locs cells slots) (hx : p.tables.exec = Jvm.exec) (hZ : Z.Warmed39 s.vm) {own : String} {index : Nat} {y : MethodName} {bytes : ByteArray} {maxL : Nat} {ret : Option FieldType} (hown : s.vm.findClass own = some m.cls) (w1 : (Jvm.Cond.methodLink own index y).before a0 Z = true) (w2 : (Jvm.Cond.static y).before a0 Z = true) (w3 : (Jvm.Cond.initialized y.cls).before a0 Z = true) (w4 : (Jvm.Cond.code y bytes maxL ret).before a0 Z = true) (hy : y.cls ≠ "java/lang/invoke/MethodHandle" ∧ y.cls ≠ "java/lang/invoke/VarHandle")
    {rm : Room} {as' : Array Value} {P : Int64 → Prop} (C : Ctr l Z y bytes maxL ret rm [] as' h (JQ P h)) {argsL rest : List Value} {ps : List FieldType} {rt : Option FieldType} (hpd : parseMethodDescriptor y.desc = some ⟨ps, rt⟩) (hlen : argsL.length = ps.length) (hst : S = argsL.reverse ++ rest) (has : argsL.toArray = as') (hd : decode c.code pc = .ok (.invokestatic index, 3)) (hq : pc + 3 = q) (hsz : L.size = c.maxLocals) (eT : T.heap = h)
    (hf : rm.frames + 1 ≤ R.frames) {W : Nat} (hW : (rest.map fun v => v.category).sum = W) (hl : W + (maxL + 11) + rm.locals ≤ R.locals) (hc : rm.cells = 0) (hs : rm.slots = 0) (hc' : cells ≤ R.cells) (hs' : slots ≤ R.slots)
    (k : ∀ T' r, Stand p l e R s m args below meth c T' locs cells slots → T'.heap = h → P r → Go p e below Φ (T'.setTop (mkF m q L (.long r :: rest)))) : Go p e below Φ (T.setTop (mkF m pc L S)) := by
  refine g_callS X hx hZ hown w1 w2 w3 w4 hy C hpd hlen hst has hd hq hsz eT hf hW hl (by omega) (by omega) ?_
  intro v T' Lc X' hQ
  obtain ⟨r, rfl, hP, e1, rfl⟩ := hQ
  rw [hc, hs, List.append_nil] at X'
  exact k T' r X' e1 hP
end OwnKit
theorem own_par (a b : Int64) : (a.toInt % 2 = 1 ∧ b.toInt % 2 = 1 ∧ (a &&& b).toInt % 2 = 1) ∨ ((a.toInt % 2 = 0 ∨ b.toInt % 2 = 0) ∧ (a &&& b).toInt % 2 = 0) := by
  have h1 := parL a; have h2 := parL b; have h3 := parL (a &&& b)
  have h4 : (a &&& b).toBitVec.toNat = a.toBitVec.toNat &&& b.toBitVec.toNat := by rw [Int64.toBitVec_and, BitVec.toNat_and]
  have h5 : (a.toBitVec.toNat &&& b.toBitVec.toNat) % 2 = (a.toBitVec.toNat % 2) &&& (b.toBitVec.toNat % 2) := Nat.and_mod_two_pow (n := 1)
  rw [h4, h5] at h3
  rcases Nat.mod_two_eq_zero_or_one a.toBitVec.toNat with e | e <;> rcases Nat.mod_two_eq_zero_or_one b.toBitVec.toNat with f | f <;> rw [e, f] at h3 <;> simp only [Nat.zero_and, Nat.and_zero, Nat.and_self] at h3 <;> omega
def RM_rm2 : Room := ({ frames := 0, cells := 0, slots := 0, locals := 0 } : Room)
theorem d2_0 : decode prog_56_method_4_code 0 = .ok (.ldc2_w 32, 3) := by decide +kernel
theorem d2_3 : decode prog_56_method_4_code 3 = .ok (.lload_n 0, 1) := by decide +kernel
theorem d2_4 : decode prog_56_method_4_code 4 = .ok (.lconst 1, 1) := by decide +kernel
theorem d2_5 : decode prog_56_method_4_code 5 = .ok (.ladd, 1) := by decide +kernel
theorem d2_6 : decode prog_56_method_4_code 6 = .ok (.ldc2_w 34, 3) := by decide +kernel
theorem d2_9 : decode prog_56_method_4_code 9 = .ok (.ldiv, 1) := by decide +kernel
theorem d2_10 : decode prog_56_method_4_code 10 = .ok (.ladd, 1) := by decide +kernel
theorem d2_11 : decode prog_56_method_4_code 11 = .ok (.lreturn, 1) := by decide +kernel
theorem ef_2 (m : MethodId) (z0 : Int64) : entryFrame m #[.long z0] 2 = mkF m 0 #[.val (.long z0), .second] [] := by first | (simp [entryFrame, mkF, argsToLocals, Value.category]; done) | rfl
theorem pn_0 : plainName "com/example/shawsheen/shawsheen/work/Budget" = true := by first | (simp [plainName, overriddenIn]; done) | decide +kernel
set_option maxRecDepth 65536 in
set_option maxHeartbeats 40000000 in
theorem rm2 (l : Launch) (Z : State) (a0 : Array Value) (hw : ∀ d ∈ tables_1, d.before a0 Z = true) (ws : List Jvm.Cond) (a : Int64) (h0 : Heap) (n0 : Nat) (Z0 : n0 ≤ h0.size) :
    Ctr l Z (⟨"com/example/shawsheen/shawsheen/work/Budget", "ofArray", "(J)J"⟩ : MethodName) prog_56_method_4_code 2 (some .long) RM_rm2 ws #[.long a] h0 (PQ (.long ((4 : Int64) + ((a + (1 : Int64)) / (2 : Int64)))) h0) := by
  refine Ctr.of (plainFor_of_name pn_0) ?_
  intro p e s m below meth c s₁ hx hby hml hrt hlk hnm hown hZ X0 e0
  have N0 := Fr.nil n0
  refine Go.cast (ef_2 m a) ?_
  refine g_ldc2J (q := 3) X0 hx hZ hown (hw _ (List.mem_of_getElem? (i := 10) rfl)) (hb hby d2_0) rfl ?_
  refine g_lloadN (q := 4) X0.here hx (hb hby d2_3) rfl rfl ?_
  refine g_lconst1 (q := 5) X0.here hx (hb hby d2_4) rfl ?_
  refine g_ladd (q := 6) X0.here hx (hb hby d2_5) rfl ?_
  refine g_ldc2J (q := 9) X0 hx hZ hown (hw _ (List.mem_of_getElem? (i := 11) rfl)) (hb hby d2_6) rfl ?_
  refine g_ldiv (q := 10) X0.here hx (hb hby d2_9) (by decide) rfl ?_
  refine g_ladd (q := 11) X0.here hx (hb hby d2_10) rfl ?_
  exact g_lreturn X0 hx hlk hrt (hb hby d2_11) (by decide) (by decide) ⟨rfl, e0, rfl⟩
theorem pd_0 : parseMethodDescriptor "(J)J" = some ⟨[.long], some .long⟩ := by decide +kernel
def RM_rm1 : Room := ({ frames := 1, cells := 0, slots := 0, locals := 13 } : Room)
theorem d1_0 : decode prog_56_method_5_code 0 = .ok (.lload_n 0, 1) := by decide +kernel
theorem d1_1 : decode prog_56_method_5_code 1 = .ok (.invokestatic 36, 3) := by decide +kernel
theorem d1_4 : decode prog_56_method_5_code 4 = .ok (.lload_n 0, 1) := by decide +kernel
theorem d1_5 : decode prog_56_method_5_code 5 = .ok (.ldc2_w 32, 3) := by decide +kernel
theorem d1_8 : decode prog_56_method_5_code 8 = .ok (.lmul, 1) := by decide +kernel
theorem d1_9 : decode prog_56_method_5_code 9 = .ok (.ladd, 1) := by decide +kernel
theorem d1_10 : decode prog_56_method_5_code 10 = .ok (.lload_n 2, 1) := by decide +kernel
theorem d1_11 : decode prog_56_method_5_code 11 = .ok (.lload_n 0, 1) := by decide +kernel
theorem d1_12 : decode prog_56_method_5_code 12 = .ok (.ladd, 1) := by decide +kernel
theorem d1_13 : decode prog_56_method_5_code 13 = .ok (.ldc2_w 34, 3) := by decide +kernel
theorem d1_16 : decode prog_56_method_5_code 16 = .ok (.ldiv, 1) := by decide +kernel
theorem d1_17 : decode prog_56_method_5_code 17 = .ok (.ladd, 1) := by decide +kernel
theorem d1_18 : decode prog_56_method_5_code 18 = .ok (.lreturn, 1) := by decide +kernel
theorem ef_1 (m : MethodId) (z0 : Int64) (z1 : Int64) : entryFrame m #[.long z0, .long z1] 4 = mkF m 0 #[.val (.long z0), .second, .val (.long z1), .second] [] := by first | (simp [entryFrame, mkF, argsToLocals, Value.category]; done) | rfl
set_option maxRecDepth 65536 in
set_option maxHeartbeats 40000000 in
theorem rm1 (l : Launch) (Z : State) (a0 : Array Value) (hw : ∀ d ∈ tables_1, d.before a0 Z = true) (ws : List Jvm.Cond) (a : Int64) (b : Int64) (h0 : Heap) (n0 : Nat) (Z0 : n0 ≤ h0.size) :
    Ctr l Z (⟨"com/example/shawsheen/shawsheen/work/Budget", "ofRows", "(JJ)J"⟩ : MethodName) prog_56_method_5_code 4 (some .long) RM_rm1 ws #[.long a, .long b] h0 (PQ (.long ((((4 : Int64) + ((a + (1 : Int64)) / (2 : Int64))) + (a * (4 : Int64))) + ((b + a) / (2 : Int64)))) h0) := by
  refine Ctr.of (plainFor_of_name pn_0) ?_
  intro p e s m below meth c s₁ hx hby hml hrt hlk hnm hown hZ X0 e0
  have N0 := Fr.nil n0
  refine Go.cast (ef_1 m a b) ?_
  refine g_lloadN (q := 1) X0.here hx (hb hby d1_0) rfl rfl ?_
  refine g_callSP (q := 4) X0 hx hZ hown (hw _ (List.mem_of_getElem? (i := 7) rfl)) (hw _ (List.mem_of_getElem? (i := 8) rfl)) (hw _ (List.mem_of_getElem? (i := 5) rfl)) (hw _ (List.mem_of_getElem? (i := 9) rfl)) (by decide) (rm2 l Z a0 hw [] a h0 n0 Z0) (argsL := [.long a]) (rest := []) pd_0 rfl rfl rfl (hb hby d1_1) rfl (by rw [hml]; rfl) e0 (by decide) (W := 0) rfl (by decide) rfl rfl (by decide) (by decide) ?_
  intro T1 X1 e1
  refine g_lloadN (q := 5) X1.here hx (hb hby d1_4) rfl rfl ?_
  refine g_ldc2J (q := 8) X1 hx hZ hown (hw _ (List.mem_of_getElem? (i := 10) rfl)) (hb hby d1_5) rfl ?_
  refine g_lmul (q := 9) X1.here hx (hb hby d1_8) rfl ?_
  refine g_ladd (q := 10) X1.here hx (hb hby d1_9) rfl ?_
  refine g_lloadN (q := 11) X1.here hx (hb hby d1_10) rfl rfl ?_
  refine g_lloadN (q := 12) X1.here hx (hb hby d1_11) rfl rfl ?_
  refine g_ladd (q := 13) X1.here hx (hb hby d1_12) rfl ?_
  refine g_ldc2J (q := 16) X1 hx hZ hown (hw _ (List.mem_of_getElem? (i := 11) rfl)) (hb hby d1_13) rfl ?_
  refine g_ldiv (q := 17) X1.here hx (hb hby d1_16) (by decide) rfl ?_
  refine g_ladd (q := 18) X1.here hx (hb hby d1_17) rfl ?_
  exact g_lreturn X1 hx hlk hrt (hb hby d1_18) (by decide) (by decide) ⟨rfl, e1, rfl⟩
theorem pd_1 : parseMethodDescriptor "(JJ)J" = some ⟨[.long, .long], some .long⟩ := by decide +kernel
theorem ef_0 (m : MethodId) (z0 : Int64) (z1 : Int64) : entryFrame m #[.long z0, .long z1] maxLocals = mkF m 0 #[.val (.long z0), .second, .val (.long z1), .second, .unset, .unset, .unset, .unset, .unset, .unset, .unset, .unset, .unset, .unset, .unset, .unset] [] := by first | (simp [entryFrame, mkF, argsToLocals, Value.category, maxLocals]; done) | rfl
theorem pn_1 : plainName "com/example/shawsheen/shawsheen/work/BudgetOfRowsPinLaw" = true := by first | (simp [plainName, overriddenIn]; done) | decide +kernel
set_option maxRecDepth 65536 in
set_option maxHeartbeats 40000000 in
theorem rm0 (l : Launch) (Z : State) (a0 : Array Value) (hw : ∀ d ∈ tables_1, d.before a0 Z = true) (ws : List Jvm.Cond) (a : Int64) (b : Int64) (h0 : Heap) (n0 : Nat) (Z0 : n0 ≤ h0.size) :
    Ctr l Z x code maxLocals ret room_1 ws #[.long a, .long b] h0 (fun v h L => v = some (.int 1) ∧ Fr n0 L) := by
  refine Ctr.of (plainFor_of_name pn_1) ?_
  intro p e s m below meth c s₁ hx hby hml hrt hlk hnm hown hZ X0 e0
  have N0 := Fr.nil n0
  refine Go.cast (ef_0 m a b) ?_
  replace hown : s.vm.findClass "com/example/shawsheen/shawsheen/work/BudgetOfRowsPinLaw" = some m.cls := hown
  replace hml : c.maxLocals = 16 := hml
  replace hrt : meth.sig.returnType = some .boolean := hrt
  refine g_lloadN (q := 1) X0.here hx (hb hby at_0) rfl rfl ?_
  refine g_ldc2J (q := 4) X0 hx hZ hown (hw _ (List.mem_of_getElem? (i := 0) rfl)) (hb hby at_1) rfl ?_
  refine g_land (q := 5) X0.here hx (hb hby at_4) rfl ?_
  refine g_lstore (q := 7) (L' := #[.val (.long a), .second, .val (.long b), .second, .val (.long (a &&& (1152921504606846975 : Int64))), .second, .unset, .unset, .unset, .unset, .unset, .unset, .unset, .unset, .unset, .unset]) X0.here hx (hb hby at_5) rfl rfl ?_
  refine g_lloadN (q := 8) X0.here hx (hb hby at_7) rfl rfl ?_
  refine g_ldc2J (q := 11) X0 hx hZ hown (hw _ (List.mem_of_getElem? (i := 0) rfl)) (hb hby at_8) rfl ?_
  refine g_land (q := 12) X0.here hx (hb hby at_11) rfl ?_
  refine g_lstore (q := 14) (L' := #[.val (.long a), .second, .val (.long b), .second, .val (.long (a &&& (1152921504606846975 : Int64))), .second, .val (.long (b &&& (1152921504606846975 : Int64))), .second, .unset, .unset, .unset, .unset, .unset, .unset, .unset, .unset]) X0.here hx (hb hby at_12) rfl rfl ?_
  refine g_ldc2J (q := 17) X0 hx hZ hown (hw _ (List.mem_of_getElem? (i := 1) rfl)) (hb hby at_14) rfl ?_
  refine g_ldc2J (q := 20) X0 hx hZ hown (hw _ (List.mem_of_getElem? (i := 2) rfl)) (hb hby at_17) rfl ?_
  refine g_lload (q := 22) X0.here hx (hb hby at_20) rfl rfl ?_
  refine g_lmul (q := 23) X0.here hx (hb hby at_22) rfl ?_
  refine g_ladd (q := 24) X0.here hx (hb hby at_23) rfl ?_
  refine g_lload (q := 26) X0.here hx (hb hby at_24) rfl rfl ?_
  refine g_iconst (q := 27) (v := (1 : Int32)) X0.here hx (hb hby at_26) rfl rfl ?_
  refine g_lshr (q := 28) X0.here hx (hb hby at_27) rfl ?_
  refine g_ladd (q := 29) X0.here hx (hb hby at_28) rfl ?_
  refine g_lload (q := 31) X0.here hx (hb hby at_29) rfl rfl ?_
  refine g_lload (q := 33) X0.here hx (hb hby at_31) rfl rfl ?_
  refine g_land (q := 34) X0.here hx (hb hby at_33) rfl ?_
  refine g_lconst1 (q := 35) X0.here hx (hb hby at_34) rfl ?_
  refine g_land (q := 36) X0.here hx (hb hby at_35) rfl ?_
  refine g_ladd (q := 37) X0.here hx (hb hby at_36) rfl ?_
  generalize hv_v1 : ((((4 : Int64) + ((5 : Int64) * (a &&& (1152921504606846975 : Int64)))) + ((b &&& (1152921504606846975 : Int64)) >>> ((1 : Int32) &&& 0x3f).toInt64)) + (((b &&& (1152921504606846975 : Int64)) &&& (a &&& (1152921504606846975 : Int64))) &&& (1 : Int64))) = v1
  refine g_lstore (q := 39) (L' := #[.val (.long a), .second, .val (.long b), .second, .val (.long (a &&& (1152921504606846975 : Int64))), .second, .val (.long (b &&& (1152921504606846975 : Int64))), .second, .val (.long v1), .second, .unset, .unset, .unset, .unset, .unset, .unset]) X0.here hx (hb hby at_37) rfl rfl ?_
  refine g_lload (q := 41) X0.here hx (hb hby at_39) rfl rfl ?_
  refine g_lload (q := 43) X0.here hx (hb hby at_41) rfl rfl ?_
  refine g_callSP (q := 46) X0 hx hZ hown (hw _ (List.mem_of_getElem? (i := 3) rfl)) (hw _ (List.mem_of_getElem? (i := 4) rfl)) (hw _ (List.mem_of_getElem? (i := 5) rfl)) (hw _ (List.mem_of_getElem? (i := 6) rfl)) (by decide) (rm1 l Z a0 hw [] (a &&& (1152921504606846975 : Int64)) (b &&& (1152921504606846975 : Int64)) h0 n0 Z0) (argsL := [.long (a &&& (1152921504606846975 : Int64)), .long (b &&& (1152921504606846975 : Int64))]) (rest := []) pd_1 rfl rfl rfl (hb hby at_43) rfl (by rw [hml]; rfl) e0 (by decide) (W := 0) rfl (by decide) rfl rfl (by decide) (by decide) ?_
  intro T2 X2 e2
  generalize hv_v3 : ((((4 : Int64) + (((a &&& (1152921504606846975 : Int64)) + (1 : Int64)) / (2 : Int64))) + ((a &&& (1152921504606846975 : Int64)) * (4 : Int64))) + (((b &&& (1152921504606846975 : Int64)) + (a &&& (1152921504606846975 : Int64))) / (2 : Int64))) = v3
  refine g_lstore (q := 48) (L' := #[.val (.long a), .second, .val (.long b), .second, .val (.long (a &&& (1152921504606846975 : Int64))), .second, .val (.long (b &&& (1152921504606846975 : Int64))), .second, .val (.long v1), .second, .val (.long v3), .second, .unset, .unset, .unset, .unset]) X2.here hx (hb hby at_46) rfl rfl ?_
  refine g_lload (q := 50) X2.here hx (hb hby at_48) rfl rfl ?_
  refine g_lload (q := 52) X2.here hx (hb hby at_50) rfl rfl ?_
  refine g_sel_lcmp_ne (q := 61) (q1 := 53) X2.here hx (hb hby at_52) rfl (hb hby at_53) (by decide) (by decide) rfl (hb hby at_60) (hb hby at_56) (hb hby at_57) rfl (by decide) (by decide) rfl ?_
  refine g_istore (q := 63) (L' := #[.val (.long a), .second, .val (.long b), .second, .val (.long (a &&& (1152921504606846975 : Int64))), .second, .val (.long (b &&& (1152921504606846975 : Int64))), .second, .val (.long v1), .second, .val (.long v3), .second, .val (.int (b2i (decide (v3.toInt = v1.toInt)))), .unset, .unset, .unset]) X2.here hx (hb hby at_61) rfl rfl ?_
  refine g_lconst1 (q := 64) X2.here hx (hb hby at_63) rfl ?_
  refine g_lload (q := 66) X2.here hx (hb hby at_64) rfl rfl ?_
  refine g_callSP (q := 69) X2 hx hZ hown (hw _ (List.mem_of_getElem? (i := 3) rfl)) (hw _ (List.mem_of_getElem? (i := 4) rfl)) (hw _ (List.mem_of_getElem? (i := 5) rfl)) (hw _ (List.mem_of_getElem? (i := 6) rfl)) (by decide) (rm1 l Z a0 hw [] (1 : Int64) (b &&& (1152921504606846975 : Int64)) h0 n0 Z0) (argsL := [.long (1 : Int64), .long (b &&& (1152921504606846975 : Int64))]) (rest := []) pd_1 rfl rfl rfl (hb hby at_66) rfl (by rw [hml]; rfl) e2 (by decide) (W := 0) rfl (by decide) rfl rfl (by decide) (by decide) ?_
  intro T4 X4 e4
  generalize hv_v5 : ((((4 : Int64) + (((1 : Int64) + (1 : Int64)) / (2 : Int64))) + ((1 : Int64) * (4 : Int64))) + (((b &&& (1152921504606846975 : Int64)) + (1 : Int64)) / (2 : Int64))) = v5
  refine g_lstore (q := 71) (L' := #[.val (.long a), .second, .val (.long b), .second, .val (.long (a &&& (1152921504606846975 : Int64))), .second, .val (.long (b &&& (1152921504606846975 : Int64))), .second, .val (.long v1), .second, .val (.long v3), .second, .val (.int (b2i (decide (v3.toInt = v1.toInt)))), .val (.long v5), .second, .unset]) X4.here hx (hb hby at_69) rfl rfl ?_
  refine g_lload (q := 73) X4.here hx (hb hby at_71) rfl rfl ?_
  refine g_lconst1 (q := 74) X4.here hx (hb hby at_73) rfl ?_
  refine g_callSP (q := 77) X4 hx hZ hown (hw _ (List.mem_of_getElem? (i := 12) rfl)) (hw _ (List.mem_of_getElem? (i := 8) rfl)) (hw _ (List.mem_of_getElem? (i := 5) rfl)) (hw _ (List.mem_of_getElem? (i := 9) rfl)) (by decide) (rm2 l Z a0 hw [] (1 : Int64) h0 n0 Z0) (argsL := [.long (1 : Int64)]) (rest := [.long v5]) pd_0 rfl rfl rfl (hb hby at_74) rfl (by rw [hml]; rfl) e4 (by decide) (W := 2) rfl (by decide) rfl rfl (by decide) (by decide) ?_
  intro T6 X6 e6
  refine g_lload (q := 79) X6.here hx (hb hby at_77) rfl rfl ?_
  refine g_callSP (q := 82) X6 hx hZ hown (hw _ (List.mem_of_getElem? (i := 12) rfl)) (hw _ (List.mem_of_getElem? (i := 8) rfl)) (hw _ (List.mem_of_getElem? (i := 5) rfl)) (hw _ (List.mem_of_getElem? (i := 9) rfl)) (by decide) (rm2 l Z a0 hw [] (b &&& (1152921504606846975 : Int64)) h0 n0 Z0) (argsL := [.long (b &&& (1152921504606846975 : Int64))]) (rest := [.long ((4 : Int64) + (((1 : Int64) + (1 : Int64)) / (2 : Int64))), .long v5]) pd_0 rfl rfl rfl (hb hby at_79) rfl (by rw [hml]; rfl) e6 (by decide) (W := 4) rfl (by decide) rfl rfl (by decide) (by decide) ?_
  intro T7 X7 e7
  refine g_ladd (q := 83) X7.here hx (hb hby at_82) rfl ?_
  refine g_sel_lcmp_ne (q := 92) (q1 := 84) X7.here hx (hb hby at_83) rfl (hb hby at_84) (by decide) (by decide) rfl (hb hby at_91) (hb hby at_87) (hb hby at_88) rfl (by decide) (by decide) rfl ?_
  refine g_istore (q := 94) (L' := #[.val (.long a), .second, .val (.long b), .second, .val (.long (a &&& (1152921504606846975 : Int64))), .second, .val (.long (b &&& (1152921504606846975 : Int64))), .second, .val (.long v1), .second, .val (.long v3), .second, .val (.int (b2i (decide (v3.toInt = v1.toInt)))), .val (.long v5), .second, .val (.int (b2i (decide (v5.toInt = (((4 : Int64) + (((1 : Int64) + (1 : Int64)) / (2 : Int64))) + ((4 : Int64) + (((b &&& (1152921504606846975 : Int64)) + (1 : Int64)) / (2 : Int64)))).toInt))))]) X7.here hx (hb hby at_92) rfl rfl ?_
  refine g_iload (q := 96) X7.here hx (hb hby at_94) rfl rfl ?_
  refine g_ifB_eq (q := 108) (q0 := 99) X7.here hx (hb hby at_96) (by decide) (by decide) rfl ?_ ?_
  · intro c8
    refine g_iconst (q := 109) (v := (0 : Int32)) X7.here hx (hb hby at_108) rfl rfl ?_
    exact g_zreturn (b := false) X7 hx hlk hrt (hb hby at_109) (by decide) (by decide) (by exfalso; have hcc := c8; rw [decide_eq_false_iff_not] at hcc; apply hcc; clear hcc; (try simp only [Int32.reduceToInt, Int64.reduceToInt] at hv_v1); (try simp only [Int32.reduceToInt, Int64.reduceToInt] at hv_v3); (try simp only [Int32.reduceToInt, Int64.reduceToInt] at hv_v5); (try simp only [Int32.reduceToInt, Int64.reduceToInt] at c8); have f9 := rng64 a; (try simp only [Int32.reduceToInt, Int64.reduceToInt] at f9); have f10 := rng64 (a &&& (1152921504606846975 : Int64)); (try simp only [Int32.reduceToInt, Int64.reduceToInt] at f10); have f11 := c_maskL a (1152921504606846975 : Int64) 60 (by decide) (by decide); (try simp only [Int32.reduceToInt, Int64.reduceToInt] at f11); have f12 := rng64 ((a &&& (1152921504606846975 : Int64)) + (1 : Int64)); (try simp only [Int32.reduceToInt, Int64.reduceToInt] at f12); have f13 := c_ladd (a &&& (1152921504606846975 : Int64)) (1 : Int64); (try simp only [Int32.reduceToInt, Int64.reduceToInt] at f13); (try have f13e : ((a &&& (1152921504606846975 : Int64)) + (1 : Int64)).toInt = (a &&& (1152921504606846975 : Int64)).toInt + (1 : Int) := (by omega)); have f14 := rng64 (((a &&& (1152921504606846975 : Int64)) + (1 : Int64)) / (2 : Int64)); (try simp only [Int32.reduceToInt, Int64.reduceToInt] at f14); have f15 := c_ldiv ((a &&& (1152921504606846975 : Int64)) + (1 : Int64)) (2 : Int64) 2 (by decide) (by decide); (try simp only [Int32.reduceToInt, Int64.reduceToInt] at f15); (try have f15e : (((a &&& (1152921504606846975 : Int64)) + (1 : Int64)) / (2 : Int64)).toInt = ((a &&& (1152921504606846975 : Int64)) + (1 : Int64)).toInt / 2 := (by omega)); have f16 := rng64 ((4 : Int64) + (((a &&& (1152921504606846975 : Int64)) + (1 : Int64)) / (2 : Int64))); (try simp only [Int32.reduceToInt, Int64.reduceToInt] at f16); have f17 := c_ladd (4 : Int64) (((a &&& (1152921504606846975 : Int64)) + (1 : Int64)) / (2 : Int64)); (try simp only [Int32.reduceToInt, Int64.reduceToInt] at f17); (try have f17e : ((4 : Int64) + (((a &&& (1152921504606846975 : Int64)) + (1 : Int64)) / (2 : Int64))).toInt = (4 : Int) + (((a &&& (1152921504606846975 : Int64)) + (1 : Int64)) / (2 : Int64)).toInt := (by omega)); have f19 := rng64 ((a &&& (1152921504606846975 : Int64)) * (4 : Int64)); (try simp only [Int32.reduceToInt, Int64.reduceToInt] at f19); have f20 := c_lmul (a &&& (1152921504606846975 : Int64)) (4 : Int64); (try simp only [Int32.reduceToInt, Int64.reduceToInt] at f20); (try have f20e : ((a &&& (1152921504606846975 : Int64)) * (4 : Int64)).toInt = (a &&& (1152921504606846975 : Int64)).toInt * (4 : Int) := (by omega)); have f21 := rng64 (((4 : Int64) + (((a &&& (1152921504606846975 : Int64)) + (1 : Int64)) / (2 : Int64))) + ((a &&& (1152921504606846975 : Int64)) * (4 : Int64))); (try simp only [Int32.reduceToInt, Int64.reduceToInt] at f21); have f22 := c_ladd ((4 : Int64) + (((a &&& (1152921504606846975 : Int64)) + (1 : Int64)) / (2 : Int64))) ((a &&& (1152921504606846975 : Int64)) * (4 : Int64)); (try simp only [Int32.reduceToInt, Int64.reduceToInt] at f22); (try have f22e : (((4 : Int64) + (((a &&& (1152921504606846975 : Int64)) + (1 : Int64)) / (2 : Int64))) + ((a &&& (1152921504606846975 : Int64)) * (4 : Int64))).toInt = ((4 : Int64) + (((a &&& (1152921504606846975 : Int64)) + (1 : Int64)) / (2 : Int64))).toInt + ((a &&& (1152921504606846975 : Int64)) * (4 : Int64)).toInt := (by omega)); have f27 := rng64 b; (try simp only [Int32.reduceToInt, Int64.reduceToInt] at f27); have f28 := rng64 (b &&& (1152921504606846975 : Int64)); (try simp only [Int32.reduceToInt, Int64.reduceToInt] at f28); have f29 := c_maskL b (1152921504606846975 : Int64) 60 (by decide) (by decide); (try simp only [Int32.reduceToInt, Int64.reduceToInt] at f29); have f30 := rng64 ((b &&& (1152921504606846975 : Int64)) + (a &&& (1152921504606846975 : Int64))); (try simp only [Int32.reduceToInt, Int64.reduceToInt] at f30); have f31 := c_ladd (b &&& (1152921504606846975 : Int64)) (a &&& (1152921504606846975 : Int64)); (try simp only [Int32.reduceToInt, Int64.reduceToInt] at f31); (try have f31e : ((b &&& (1152921504606846975 : Int64)) + (a &&& (1152921504606846975 : Int64))).toInt = (b &&& (1152921504606846975 : Int64)).toInt + (a &&& (1152921504606846975 : Int64)).toInt := (by omega)); have f32 := rng64 (((b &&& (1152921504606846975 : Int64)) + (a &&& (1152921504606846975 : Int64))) / (2 : Int64)); (try simp only [Int32.reduceToInt, Int64.reduceToInt] at f32); have f33 := c_ldiv ((b &&& (1152921504606846975 : Int64)) + (a &&& (1152921504606846975 : Int64))) (2 : Int64) 2 (by decide) (by decide); (try simp only [Int32.reduceToInt, Int64.reduceToInt] at f33); (try have f33e : (((b &&& (1152921504606846975 : Int64)) + (a &&& (1152921504606846975 : Int64))) / (2 : Int64)).toInt = ((b &&& (1152921504606846975 : Int64)) + (a &&& (1152921504606846975 : Int64))).toInt / 2 := (by omega)); have f34 := rng64 ((((4 : Int64) + (((a &&& (1152921504606846975 : Int64)) + (1 : Int64)) / (2 : Int64))) + ((a &&& (1152921504606846975 : Int64)) * (4 : Int64))) + (((b &&& (1152921504606846975 : Int64)) + (a &&& (1152921504606846975 : Int64))) / (2 : Int64))); (try simp only [Int32.reduceToInt, Int64.reduceToInt] at f34); have f35 := c_ladd (((4 : Int64) + (((a &&& (1152921504606846975 : Int64)) + (1 : Int64)) / (2 : Int64))) + ((a &&& (1152921504606846975 : Int64)) * (4 : Int64))) (((b &&& (1152921504606846975 : Int64)) + (a &&& (1152921504606846975 : Int64))) / (2 : Int64)); (try simp only [Int32.reduceToInt, Int64.reduceToInt] at f35); (try have f35e : ((((4 : Int64) + (((a &&& (1152921504606846975 : Int64)) + (1 : Int64)) / (2 : Int64))) + ((a &&& (1152921504606846975 : Int64)) * (4 : Int64))) + (((b &&& (1152921504606846975 : Int64)) + (a &&& (1152921504606846975 : Int64))) / (2 : Int64))).toInt = (((4 : Int64) + (((a &&& (1152921504606846975 : Int64)) + (1 : Int64)) / (2 : Int64))) + ((a &&& (1152921504606846975 : Int64)) * (4 : Int64))).toInt + (((b &&& (1152921504606846975 : Int64)) + (a &&& (1152921504606846975 : Int64))) / (2 : Int64)).toInt := (by omega)); have f36 := congrArg Int64.toInt hv_v3; (try simp only [Int32.reduceToInt, Int64.reduceToInt] at f36); have f37 := rng64 v3; (try simp only [Int32.reduceToInt, Int64.reduceToInt] at f37); have f43 := rng64 ((5 : Int64) * (a &&& (1152921504606846975 : Int64))); (try simp only [Int32.reduceToInt, Int64.reduceToInt] at f43); have f44 := c_lmul (5 : Int64) (a &&& (1152921504606846975 : Int64)); (try simp only [Int32.reduceToInt, Int64.reduceToInt] at f44); (try have f44e : ((5 : Int64) * (a &&& (1152921504606846975 : Int64))).toInt = (5 : Int) * (a &&& (1152921504606846975 : Int64)).toInt := (by omega)); have f45 := rng64 ((4 : Int64) + ((5 : Int64) * (a &&& (1152921504606846975 : Int64)))); (try simp only [Int32.reduceToInt, Int64.reduceToInt] at f45); have f46 := c_ladd (4 : Int64) ((5 : Int64) * (a &&& (1152921504606846975 : Int64))); (try simp only [Int32.reduceToInt, Int64.reduceToInt] at f46); (try have f46e : ((4 : Int64) + ((5 : Int64) * (a &&& (1152921504606846975 : Int64)))).toInt = (4 : Int) + ((5 : Int64) * (a &&& (1152921504606846975 : Int64))).toInt := (by omega)); have f48 := rng64 ((b &&& (1152921504606846975 : Int64)) >>> ((1 : Int32) &&& 0x3f).toInt64); (try simp only [Int32.reduceToInt, Int64.reduceToInt] at f48); have f49 := c_lshr (b &&& (1152921504606846975 : Int64)) (1 : Int32) 1 (by decide); (try simp only [Int32.reduceToInt, Int64.reduceToInt] at f49); have f50 := rng64 (((4 : Int64) + ((5 : Int64) * (a &&& (1152921504606846975 : Int64)))) + ((b &&& (1152921504606846975 : Int64)) >>> ((1 : Int32) &&& 0x3f).toInt64)); (try simp only [Int32.reduceToInt, Int64.reduceToInt] at f50); have f51 := c_ladd ((4 : Int64) + ((5 : Int64) * (a &&& (1152921504606846975 : Int64)))) ((b &&& (1152921504606846975 : Int64)) >>> ((1 : Int32) &&& 0x3f).toInt64); (try simp only [Int32.reduceToInt, Int64.reduceToInt] at f51); (try have f51e : (((4 : Int64) + ((5 : Int64) * (a &&& (1152921504606846975 : Int64)))) + ((b &&& (1152921504606846975 : Int64)) >>> ((1 : Int32) &&& 0x3f).toInt64)).toInt = ((4 : Int64) + ((5 : Int64) * (a &&& (1152921504606846975 : Int64)))).toInt + ((b &&& (1152921504606846975 : Int64)) >>> ((1 : Int32) &&& 0x3f).toInt64).toInt := (by omega)); have f54 := rng64 ((b &&& (1152921504606846975 : Int64)) &&& (a &&& (1152921504606846975 : Int64))); (try simp only [Int32.reduceToInt, Int64.reduceToInt] at f54); have f55 := own_par (b &&& (1152921504606846975 : Int64)) (a &&& (1152921504606846975 : Int64)); (try simp only [Int32.reduceToInt, Int64.reduceToInt] at f55); have f56 := c_andSL (b &&& (1152921504606846975 : Int64)) (a &&& (1152921504606846975 : Int64)); (try simp only [Int32.reduceToInt, Int64.reduceToInt] at f56); have f57 := rng64 (((b &&& (1152921504606846975 : Int64)) &&& (a &&& (1152921504606846975 : Int64))) &&& (1 : Int64)); (try simp only [Int32.reduceToInt, Int64.reduceToInt] at f57); have f58 := c_maskL ((b &&& (1152921504606846975 : Int64)) &&& (a &&& (1152921504606846975 : Int64))) (1 : Int64) 1 (by decide) (by decide); (try simp only [Int32.reduceToInt, Int64.reduceToInt] at f58); have f59 := rng64 ((((4 : Int64) + ((5 : Int64) * (a &&& (1152921504606846975 : Int64)))) + ((b &&& (1152921504606846975 : Int64)) >>> ((1 : Int32) &&& 0x3f).toInt64)) + (((b &&& (1152921504606846975 : Int64)) &&& (a &&& (1152921504606846975 : Int64))) &&& (1 : Int64))); (try simp only [Int32.reduceToInt, Int64.reduceToInt] at f59); have f60 := c_ladd (((4 : Int64) + ((5 : Int64) * (a &&& (1152921504606846975 : Int64)))) + ((b &&& (1152921504606846975 : Int64)) >>> ((1 : Int32) &&& 0x3f).toInt64)) (((b &&& (1152921504606846975 : Int64)) &&& (a &&& (1152921504606846975 : Int64))) &&& (1 : Int64)); (try simp only [Int32.reduceToInt, Int64.reduceToInt] at f60); (try have f60e : ((((4 : Int64) + ((5 : Int64) * (a &&& (1152921504606846975 : Int64)))) + ((b &&& (1152921504606846975 : Int64)) >>> ((1 : Int32) &&& 0x3f).toInt64)) + (((b &&& (1152921504606846975 : Int64)) &&& (a &&& (1152921504606846975 : Int64))) &&& (1 : Int64))).toInt = (((4 : Int64) + ((5 : Int64) * (a &&& (1152921504606846975 : Int64)))) + ((b &&& (1152921504606846975 : Int64)) >>> ((1 : Int32) &&& 0x3f).toInt64)).toInt + (((b &&& (1152921504606846975 : Int64)) &&& (a &&& (1152921504606846975 : Int64))) &&& (1 : Int64)).toInt := (by omega)); have f61 := congrArg Int64.toInt hv_v1; (try simp only [Int32.reduceToInt, Int64.reduceToInt] at f61); have f62 := rng64 v1; (try simp only [Int32.reduceToInt, Int64.reduceToInt] at f62); (try simp only [Int32.reduceToInt, Int64.reduceToInt]); omega)
  · intro c8
    refine g_iload (q := 101) X7.here hx (hb hby at_99) rfl rfl ?_
    refine g_selB_eq (q := 109) X7.here hx (hb hby at_101) (by decide) (by decide) rfl (hb hby at_108) (hb hby at_104) (hb hby at_105) rfl (by decide) (by decide) rfl ?_
    exact g_zreturn (b := decide (v5.toInt = (((4 : Int64) + (((1 : Int64) + (1 : Int64)) / (2 : Int64))) + ((4 : Int64) + (((b &&& (1152921504606846975 : Int64)) + (1 : Int64)) / (2 : Int64)))).toInt)) X7 hx hlk hrt (hb hby at_109) (by decide) (by decide) ⟨okB (decide_eq_true (by (try simp only [Int32.reduceToInt, Int64.reduceToInt] at hv_v1); (try simp only [Int32.reduceToInt, Int64.reduceToInt] at hv_v3); (try simp only [Int32.reduceToInt, Int64.reduceToInt] at hv_v5); (try simp only [Int32.reduceToInt, Int64.reduceToInt] at c8); have f9 := rng64 a; (try simp only [Int32.reduceToInt, Int64.reduceToInt] at f9); have f10 := rng64 (a &&& (1152921504606846975 : Int64)); (try simp only [Int32.reduceToInt, Int64.reduceToInt] at f10); have f11 := c_maskL a (1152921504606846975 : Int64) 60 (by decide) (by decide); (try simp only [Int32.reduceToInt, Int64.reduceToInt] at f11); have f12 := rng64 ((a &&& (1152921504606846975 : Int64)) + (1 : Int64)); (try simp only [Int32.reduceToInt, Int64.reduceToInt] at f12); have f13 := c_ladd (a &&& (1152921504606846975 : Int64)) (1 : Int64); (try simp only [Int32.reduceToInt, Int64.reduceToInt] at f13); (try have f13e : ((a &&& (1152921504606846975 : Int64)) + (1 : Int64)).toInt = (a &&& (1152921504606846975 : Int64)).toInt + (1 : Int) := (by omega)); have f14 := rng64 (((a &&& (1152921504606846975 : Int64)) + (1 : Int64)) / (2 : Int64)); (try simp only [Int32.reduceToInt, Int64.reduceToInt] at f14); have f15 := c_ldiv ((a &&& (1152921504606846975 : Int64)) + (1 : Int64)) (2 : Int64) 2 (by decide) (by decide); (try simp only [Int32.reduceToInt, Int64.reduceToInt] at f15); (try have f15e : (((a &&& (1152921504606846975 : Int64)) + (1 : Int64)) / (2 : Int64)).toInt = ((a &&& (1152921504606846975 : Int64)) + (1 : Int64)).toInt / 2 := (by omega)); have f16 := rng64 ((4 : Int64) + (((a &&& (1152921504606846975 : Int64)) + (1 : Int64)) / (2 : Int64))); (try simp only [Int32.reduceToInt, Int64.reduceToInt] at f16); have f17 := c_ladd (4 : Int64) (((a &&& (1152921504606846975 : Int64)) + (1 : Int64)) / (2 : Int64)); (try simp only [Int32.reduceToInt, Int64.reduceToInt] at f17); (try have f17e : ((4 : Int64) + (((a &&& (1152921504606846975 : Int64)) + (1 : Int64)) / (2 : Int64))).toInt = (4 : Int) + (((a &&& (1152921504606846975 : Int64)) + (1 : Int64)) / (2 : Int64)).toInt := (by omega)); have f19 := rng64 ((a &&& (1152921504606846975 : Int64)) * (4 : Int64)); (try simp only [Int32.reduceToInt, Int64.reduceToInt] at f19); have f20 := c_lmul (a &&& (1152921504606846975 : Int64)) (4 : Int64); (try simp only [Int32.reduceToInt, Int64.reduceToInt] at f20); (try have f20e : ((a &&& (1152921504606846975 : Int64)) * (4 : Int64)).toInt = (a &&& (1152921504606846975 : Int64)).toInt * (4 : Int) := (by omega)); have f21 := rng64 (((4 : Int64) + (((a &&& (1152921504606846975 : Int64)) + (1 : Int64)) / (2 : Int64))) + ((a &&& (1152921504606846975 : Int64)) * (4 : Int64))); (try simp only [Int32.reduceToInt, Int64.reduceToInt] at f21); have f22 := c_ladd ((4 : Int64) + (((a &&& (1152921504606846975 : Int64)) + (1 : Int64)) / (2 : Int64))) ((a &&& (1152921504606846975 : Int64)) * (4 : Int64)); (try simp only [Int32.reduceToInt, Int64.reduceToInt] at f22); (try have f22e : (((4 : Int64) + (((a &&& (1152921504606846975 : Int64)) + (1 : Int64)) / (2 : Int64))) + ((a &&& (1152921504606846975 : Int64)) * (4 : Int64))).toInt = ((4 : Int64) + (((a &&& (1152921504606846975 : Int64)) + (1 : Int64)) / (2 : Int64))).toInt + ((a &&& (1152921504606846975 : Int64)) * (4 : Int64)).toInt := (by omega)); have f27 := rng64 b; (try simp only [Int32.reduceToInt, Int64.reduceToInt] at f27); have f28 := rng64 (b &&& (1152921504606846975 : Int64)); (try simp only [Int32.reduceToInt, Int64.reduceToInt] at f28); have f29 := c_maskL b (1152921504606846975 : Int64) 60 (by decide) (by decide); (try simp only [Int32.reduceToInt, Int64.reduceToInt] at f29); have f30 := rng64 ((b &&& (1152921504606846975 : Int64)) + (a &&& (1152921504606846975 : Int64))); (try simp only [Int32.reduceToInt, Int64.reduceToInt] at f30); have f31 := c_ladd (b &&& (1152921504606846975 : Int64)) (a &&& (1152921504606846975 : Int64)); (try simp only [Int32.reduceToInt, Int64.reduceToInt] at f31); (try have f31e : ((b &&& (1152921504606846975 : Int64)) + (a &&& (1152921504606846975 : Int64))).toInt = (b &&& (1152921504606846975 : Int64)).toInt + (a &&& (1152921504606846975 : Int64)).toInt := (by omega)); have f32 := rng64 (((b &&& (1152921504606846975 : Int64)) + (a &&& (1152921504606846975 : Int64))) / (2 : Int64)); (try simp only [Int32.reduceToInt, Int64.reduceToInt] at f32); have f33 := c_ldiv ((b &&& (1152921504606846975 : Int64)) + (a &&& (1152921504606846975 : Int64))) (2 : Int64) 2 (by decide) (by decide); (try simp only [Int32.reduceToInt, Int64.reduceToInt] at f33); (try have f33e : (((b &&& (1152921504606846975 : Int64)) + (a &&& (1152921504606846975 : Int64))) / (2 : Int64)).toInt = ((b &&& (1152921504606846975 : Int64)) + (a &&& (1152921504606846975 : Int64))).toInt / 2 := (by omega)); have f34 := rng64 ((((4 : Int64) + (((a &&& (1152921504606846975 : Int64)) + (1 : Int64)) / (2 : Int64))) + ((a &&& (1152921504606846975 : Int64)) * (4 : Int64))) + (((b &&& (1152921504606846975 : Int64)) + (a &&& (1152921504606846975 : Int64))) / (2 : Int64))); (try simp only [Int32.reduceToInt, Int64.reduceToInt] at f34); have f35 := c_ladd (((4 : Int64) + (((a &&& (1152921504606846975 : Int64)) + (1 : Int64)) / (2 : Int64))) + ((a &&& (1152921504606846975 : Int64)) * (4 : Int64))) (((b &&& (1152921504606846975 : Int64)) + (a &&& (1152921504606846975 : Int64))) / (2 : Int64)); (try simp only [Int32.reduceToInt, Int64.reduceToInt] at f35); (try have f35e : ((((4 : Int64) + (((a &&& (1152921504606846975 : Int64)) + (1 : Int64)) / (2 : Int64))) + ((a &&& (1152921504606846975 : Int64)) * (4 : Int64))) + (((b &&& (1152921504606846975 : Int64)) + (a &&& (1152921504606846975 : Int64))) / (2 : Int64))).toInt = (((4 : Int64) + (((a &&& (1152921504606846975 : Int64)) + (1 : Int64)) / (2 : Int64))) + ((a &&& (1152921504606846975 : Int64)) * (4 : Int64))).toInt + (((b &&& (1152921504606846975 : Int64)) + (a &&& (1152921504606846975 : Int64))) / (2 : Int64)).toInt := (by omega)); have f36 := congrArg Int64.toInt hv_v3; (try simp only [Int32.reduceToInt, Int64.reduceToInt] at f36); have f37 := rng64 v3; (try simp only [Int32.reduceToInt, Int64.reduceToInt] at f37); have f43 := rng64 ((5 : Int64) * (a &&& (1152921504606846975 : Int64))); (try simp only [Int32.reduceToInt, Int64.reduceToInt] at f43); have f44 := c_lmul (5 : Int64) (a &&& (1152921504606846975 : Int64)); (try simp only [Int32.reduceToInt, Int64.reduceToInt] at f44); (try have f44e : ((5 : Int64) * (a &&& (1152921504606846975 : Int64))).toInt = (5 : Int) * (a &&& (1152921504606846975 : Int64)).toInt := (by omega)); have f45 := rng64 ((4 : Int64) + ((5 : Int64) * (a &&& (1152921504606846975 : Int64)))); (try simp only [Int32.reduceToInt, Int64.reduceToInt] at f45); have f46 := c_ladd (4 : Int64) ((5 : Int64) * (a &&& (1152921504606846975 : Int64))); (try simp only [Int32.reduceToInt, Int64.reduceToInt] at f46); (try have f46e : ((4 : Int64) + ((5 : Int64) * (a &&& (1152921504606846975 : Int64)))).toInt = (4 : Int) + ((5 : Int64) * (a &&& (1152921504606846975 : Int64))).toInt := (by omega)); have f48 := rng64 ((b &&& (1152921504606846975 : Int64)) >>> ((1 : Int32) &&& 0x3f).toInt64); (try simp only [Int32.reduceToInt, Int64.reduceToInt] at f48); have f49 := c_lshr (b &&& (1152921504606846975 : Int64)) (1 : Int32) 1 (by decide); (try simp only [Int32.reduceToInt, Int64.reduceToInt] at f49); have f50 := rng64 (((4 : Int64) + ((5 : Int64) * (a &&& (1152921504606846975 : Int64)))) + ((b &&& (1152921504606846975 : Int64)) >>> ((1 : Int32) &&& 0x3f).toInt64)); (try simp only [Int32.reduceToInt, Int64.reduceToInt] at f50); have f51 := c_ladd ((4 : Int64) + ((5 : Int64) * (a &&& (1152921504606846975 : Int64)))) ((b &&& (1152921504606846975 : Int64)) >>> ((1 : Int32) &&& 0x3f).toInt64); (try simp only [Int32.reduceToInt, Int64.reduceToInt] at f51); (try have f51e : (((4 : Int64) + ((5 : Int64) * (a &&& (1152921504606846975 : Int64)))) + ((b &&& (1152921504606846975 : Int64)) >>> ((1 : Int32) &&& 0x3f).toInt64)).toInt = ((4 : Int64) + ((5 : Int64) * (a &&& (1152921504606846975 : Int64)))).toInt + ((b &&& (1152921504606846975 : Int64)) >>> ((1 : Int32) &&& 0x3f).toInt64).toInt := (by omega)); have f54 := rng64 ((b &&& (1152921504606846975 : Int64)) &&& (a &&& (1152921504606846975 : Int64))); (try simp only [Int32.reduceToInt, Int64.reduceToInt] at f54); have f55 := own_par (b &&& (1152921504606846975 : Int64)) (a &&& (1152921504606846975 : Int64)); (try simp only [Int32.reduceToInt, Int64.reduceToInt] at f55); have f56 := c_andSL (b &&& (1152921504606846975 : Int64)) (a &&& (1152921504606846975 : Int64)); (try simp only [Int32.reduceToInt, Int64.reduceToInt] at f56); have f57 := rng64 (((b &&& (1152921504606846975 : Int64)) &&& (a &&& (1152921504606846975 : Int64))) &&& (1 : Int64)); (try simp only [Int32.reduceToInt, Int64.reduceToInt] at f57); have f58 := c_maskL ((b &&& (1152921504606846975 : Int64)) &&& (a &&& (1152921504606846975 : Int64))) (1 : Int64) 1 (by decide) (by decide); (try simp only [Int32.reduceToInt, Int64.reduceToInt] at f58); have f59 := rng64 ((((4 : Int64) + ((5 : Int64) * (a &&& (1152921504606846975 : Int64)))) + ((b &&& (1152921504606846975 : Int64)) >>> ((1 : Int32) &&& 0x3f).toInt64)) + (((b &&& (1152921504606846975 : Int64)) &&& (a &&& (1152921504606846975 : Int64))) &&& (1 : Int64))); (try simp only [Int32.reduceToInt, Int64.reduceToInt] at f59); have f60 := c_ladd (((4 : Int64) + ((5 : Int64) * (a &&& (1152921504606846975 : Int64)))) + ((b &&& (1152921504606846975 : Int64)) >>> ((1 : Int32) &&& 0x3f).toInt64)) (((b &&& (1152921504606846975 : Int64)) &&& (a &&& (1152921504606846975 : Int64))) &&& (1 : Int64)); (try simp only [Int32.reduceToInt, Int64.reduceToInt] at f60); (try have f60e : ((((4 : Int64) + ((5 : Int64) * (a &&& (1152921504606846975 : Int64)))) + ((b &&& (1152921504606846975 : Int64)) >>> ((1 : Int32) &&& 0x3f).toInt64)) + (((b &&& (1152921504606846975 : Int64)) &&& (a &&& (1152921504606846975 : Int64))) &&& (1 : Int64))).toInt = (((4 : Int64) + ((5 : Int64) * (a &&& (1152921504606846975 : Int64)))) + ((b &&& (1152921504606846975 : Int64)) >>> ((1 : Int32) &&& 0x3f).toInt64)).toInt + (((b &&& (1152921504606846975 : Int64)) &&& (a &&& (1152921504606846975 : Int64))) &&& (1 : Int64)).toInt := (by omega)); have f61 := congrArg Int64.toInt hv_v1; (try simp only [Int32.reduceToInt, Int64.reduceToInt] at f61); have f62 := rng64 v1; (try simp only [Int32.reduceToInt, Int64.reduceToInt] at f62); have f69 := rng64 ((1 : Int64) + (1 : Int64)); (try simp only [Int32.reduceToInt, Int64.reduceToInt] at f69); have f70 := c_ladd (1 : Int64) (1 : Int64); (try simp only [Int32.reduceToInt, Int64.reduceToInt] at f70); (try have f70e : ((1 : Int64) + (1 : Int64)).toInt = (1 : Int) + (1 : Int) := (by omega)); have f71 := rng64 (((1 : Int64) + (1 : Int64)) / (2 : Int64)); (try simp only [Int32.reduceToInt, Int64.reduceToInt] at f71); have f72 := c_ldiv ((1 : Int64) + (1 : Int64)) (2 : Int64) 2 (by decide) (by decide); (try simp only [Int32.reduceToInt, Int64.reduceToInt] at f72); (try have f72e : (((1 : Int64) + (1 : Int64)) / (2 : Int64)).toInt = ((1 : Int64) + (1 : Int64)).toInt / 2 := (by omega)); have f73 := rng64 ((4 : Int64) + (((1 : Int64) + (1 : Int64)) / (2 : Int64))); (try simp only [Int32.reduceToInt, Int64.reduceToInt] at f73); have f74 := c_ladd (4 : Int64) (((1 : Int64) + (1 : Int64)) / (2 : Int64)); (try simp only [Int32.reduceToInt, Int64.reduceToInt] at f74); (try have f74e : ((4 : Int64) + (((1 : Int64) + (1 : Int64)) / (2 : Int64))).toInt = (4 : Int) + (((1 : Int64) + (1 : Int64)) / (2 : Int64)).toInt := (by omega)); have f76 := rng64 ((1 : Int64) * (4 : Int64)); (try simp only [Int32.reduceToInt, Int64.reduceToInt] at f76); have f77 := c_lmul (1 : Int64) (4 : Int64); (try simp only [Int32.reduceToInt, Int64.reduceToInt] at f77); have f78 := rng64 (((4 : Int64) + (((1 : Int64) + (1 : Int64)) / (2 : Int64))) + ((1 : Int64) * (4 : Int64))); (try simp only [Int32.reduceToInt, Int64.reduceToInt] at f78); have f79 := c_ladd ((4 : Int64) + (((1 : Int64) + (1 : Int64)) / (2 : Int64))) ((1 : Int64) * (4 : Int64)); (try simp only [Int32.reduceToInt, Int64.reduceToInt] at f79); (try have f79e : (((4 : Int64) + (((1 : Int64) + (1 : Int64)) / (2 : Int64))) + ((1 : Int64) * (4 : Int64))).toInt = ((4 : Int64) + (((1 : Int64) + (1 : Int64)) / (2 : Int64))).toInt + ((1 : Int64) * (4 : Int64)).toInt := (by omega)); have f82 := rng64 ((b &&& (1152921504606846975 : Int64)) + (1 : Int64)); (try simp only [Int32.reduceToInt, Int64.reduceToInt] at f82); have f83 := c_ladd (b &&& (1152921504606846975 : Int64)) (1 : Int64); (try simp only [Int32.reduceToInt, Int64.reduceToInt] at f83); (try have f83e : ((b &&& (1152921504606846975 : Int64)) + (1 : Int64)).toInt = (b &&& (1152921504606846975 : Int64)).toInt + (1 : Int) := (by omega)); have f84 := rng64 (((b &&& (1152921504606846975 : Int64)) + (1 : Int64)) / (2 : Int64)); (try simp only [Int32.reduceToInt, Int64.reduceToInt] at f84); have f85 := c_ldiv ((b &&& (1152921504606846975 : Int64)) + (1 : Int64)) (2 : Int64) 2 (by decide) (by decide); (try simp only [Int32.reduceToInt, Int64.reduceToInt] at f85); (try have f85e : (((b &&& (1152921504606846975 : Int64)) + (1 : Int64)) / (2 : Int64)).toInt = ((b &&& (1152921504606846975 : Int64)) + (1 : Int64)).toInt / 2 := (by omega)); have f86 := rng64 ((((4 : Int64) + (((1 : Int64) + (1 : Int64)) / (2 : Int64))) + ((1 : Int64) * (4 : Int64))) + (((b &&& (1152921504606846975 : Int64)) + (1 : Int64)) / (2 : Int64))); (try simp only [Int32.reduceToInt, Int64.reduceToInt] at f86); have f87 := c_ladd (((4 : Int64) + (((1 : Int64) + (1 : Int64)) / (2 : Int64))) + ((1 : Int64) * (4 : Int64))) (((b &&& (1152921504606846975 : Int64)) + (1 : Int64)) / (2 : Int64)); (try simp only [Int32.reduceToInt, Int64.reduceToInt] at f87); (try have f87e : ((((4 : Int64) + (((1 : Int64) + (1 : Int64)) / (2 : Int64))) + ((1 : Int64) * (4 : Int64))) + (((b &&& (1152921504606846975 : Int64)) + (1 : Int64)) / (2 : Int64))).toInt = (((4 : Int64) + (((1 : Int64) + (1 : Int64)) / (2 : Int64))) + ((1 : Int64) * (4 : Int64))).toInt + (((b &&& (1152921504606846975 : Int64)) + (1 : Int64)) / (2 : Int64)).toInt := (by omega)); have f88 := congrArg Int64.toInt hv_v5; (try simp only [Int32.reduceToInt, Int64.reduceToInt] at f88); have f89 := rng64 v5; (try simp only [Int32.reduceToInt, Int64.reduceToInt] at f89); have f92 := rng64 ((4 : Int64) + (((b &&& (1152921504606846975 : Int64)) + (1 : Int64)) / (2 : Int64))); (try simp only [Int32.reduceToInt, Int64.reduceToInt] at f92); have f93 := c_ladd (4 : Int64) (((b &&& (1152921504606846975 : Int64)) + (1 : Int64)) / (2 : Int64)); (try simp only [Int32.reduceToInt, Int64.reduceToInt] at f93); (try have f93e : ((4 : Int64) + (((b &&& (1152921504606846975 : Int64)) + (1 : Int64)) / (2 : Int64))).toInt = (4 : Int) + (((b &&& (1152921504606846975 : Int64)) + (1 : Int64)) / (2 : Int64)).toInt := (by omega)); have f94 := rng64 (((4 : Int64) + (((1 : Int64) + (1 : Int64)) / (2 : Int64))) + ((4 : Int64) + (((b &&& (1152921504606846975 : Int64)) + (1 : Int64)) / (2 : Int64)))); (try simp only [Int32.reduceToInt, Int64.reduceToInt] at f94); have f95 := c_ladd ((4 : Int64) + (((1 : Int64) + (1 : Int64)) / (2 : Int64))) ((4 : Int64) + (((b &&& (1152921504606846975 : Int64)) + (1 : Int64)) / (2 : Int64))); (try simp only [Int32.reduceToInt, Int64.reduceToInt] at f95); (try have f95e : (((4 : Int64) + (((1 : Int64) + (1 : Int64)) / (2 : Int64))) + ((4 : Int64) + (((b &&& (1152921504606846975 : Int64)) + (1 : Int64)) / (2 : Int64)))).toInt = ((4 : Int64) + (((1 : Int64) + (1 : Int64)) / (2 : Int64))).toInt + ((4 : Int64) + (((b &&& (1152921504606846975 : Int64)) + (1 : Int64)) / (2 : Int64))).toInt := (by omega)); (try simp only [Int32.reduceToInt, Int64.reduceToInt]); omega)), (Fr.nil n0)⟩
set_option maxRecDepth 65536 in
set_option maxHeartbeats 40000000 in
theorem comes_1 {Post : Tables → Env → Array Value → State → Outcome → State → Prop} (hpost : ∀ tb e args s v u, (limb_1_1.after args s (.returned v) u = true ∧ limb_1_2.after args s (.returned v) u = true ∧ True) → FrameEnd s (.returned v) u (Jvm.fieldLocs frame_1_writes args s ++ Jvm.arrayLocs frame_1_arrays args s ++ Jvm.staticLocs frame_1_statics s) 0 0 → Post tb e args s (.returned v) u) :
    ArmFor flags0 classFile x code maxLocals ret World_1 tables_1 room_1 Calls_1 rest_1 Pre_1 Post := by
  intro l hfl _ _ p e ha hc hk s m args below hf hA hF happ hP
  obtain ⟨hcalls, hrest, hpre⟩ := hP
  obtain ⟨-, -, -, hnamed, -, -, -, hat⟩ := (Spec.applies_iff hf).mp happ
  obtain ⟨hg, hn⟩ := and_e (Cond.before_iff.mp (show (Jvm.Cond.and given_1 narrow_1).before args s = true from hpre))
  obtain ⟨g1, g2⟩ := and_e hg
  obtain ⟨g3, g4⟩ := and_e g2
  obtain ⟨w0, w1, rfl⟩ : ∃ w0 w1 : Value, args = #[w0, w1] := by
    have hs : args.size = 2 := by simpa [Cond.value, given_1] using g1
    obtain ⟨L⟩ := args
    match L, hs with
    | [w0, w1], _ => exact ⟨w0, w1, rfl⟩
  have hw := fun d (hd : d ∈ tables_1) => atoms_spec (ws := Jvm.Cond.code x code maxLocals ret :: tables_1) hat d (List.mem_cons_of_mem _ hd)
  obtain ⟨i0, ei0⟩ := isL_v g3
  obtain rfl : w0 = (.long i0) := Option.some.inj ei0
  obtain ⟨i1, ei1⟩ := isL_v g4
  obtain rfl : w1 = (.long i1) := Option.some.inj ei1
  obtain ⟨n, o, h1, h2, h3, _, L, rfl, ⟨rfl, N⟩, hq⟩ := rm0 l s _ hw tables_1 i0 i1 s.heap s.heap.size (Nat.le_refl _) p e ha hc hk s m _ below hf ((Spec.applies_iff_loose hf).mp happ).1 ⟨rfl, State.Warmed39.refl s, rfl⟩ trivial
  refine ⟨n, _, h1, h2, h3, hpost _ _ _ _ _ _ ⟨Cond.after_iff.mpr rfl, Cond.after_iff.mpr (eq_i res_at (Term.int_eval (1)) rfl), trivial⟩ ⟨hq.1, hq.2.1, (hq.2.2.sift fun y hy => Or.inr (N y hy)).mono (by decide) (by decide)⟩⟩
theorem main_1_1 : Claimed_1_1 := comes_1 fun _ _ _ _ _ _ h hF => ⟨h.1, hF⟩
theorem main_1_2 : Claimed_1_2 := comes_1 fun _ _ _ _ _ _ h hF => ⟨h.2.1, hF⟩
end Jvm.Pilot.@@N@@
namespace Jvm.Pilot.@@N@@
open Jvm Jvm.ClassFile Sem Op Lib Jvm.Free Jvm.Stand Jvm.Pilot.@@N@@.Jvm.D
/-! MADE BY PROGRAM (witnessworld.py) out of the Statement's table words and the real class files: 9 classes; the members and pool entries that the words name. The judged class is class 1, her method 1. -/
namespace start1
open Jvm.ClassFile
def u (s : String) : CpInfo := .utf8 (stringToUtf16 s)
/-- a pool by its gaps: so many unusable entries, then the entry; so many at the end -/
def gap : Nat → List CpInfo → List CpInfo
  | 0, r => r
  | n + 1, r => .unusable :: gap n r
def poolList (es : List (Nat × CpInfo)) (last : Nat) : List CpInfo := es.foldr (fun e r => gap e.1 (e.2 :: r)) (gap last [])
def pool (es : List (Nat × CpInfo)) (last : Nat) : Array CpInfo := ⟨poolList es last⟩
def fileOf (pool : Array CpInfo) (this : Nat) (attrs : Array Attribute := #[]) (ms : Array MethodInfo := #[]) (fl : Nat := 33) (sup : Nat := 0) (ifs : Array Nat := #[]) (fds : Array FieldInfo := #[]) : ClassFile where
  minorVersion := 0
  majorVersion := 65
  constantPool := pool
  accessFlags := fl
  thisClass := this
  superClass := sup
  interfaces := ifs
  fields := fds
  methods := ms
  attributes := attrs
def plain (name : String) (sup : Option ClassId) : Class where
  name := name
  kind := .ordinary
  loader := none
  accessFlags := 33
  super := sup
  interfaces := #[]
  cf := none
  fields := #[]
  methods := #[]
  instanceTypes := #[]
  staticTypes := #[]
  resolved := #[]
  callSites := []
  init := .initialized
  statics := none
  mirror := none

def pool0 : Array CpInfo := pool [(5, u "<init>"), (0, u "()V"), (1, .class_ 10), (1, u "java/lang/Object")] 113

def k0m0 : Method := { name := "<init>", desc := "()V", sig := { parameters := [], returnType := none }, accessFlags := 1, code := none }
/-- java/lang/Object -/
def k0 : Class := { plain "java/lang/Object" none with
  accessFlags := 33
  interfaces := #[]
  cf := some (fileOf pool0 8 #[] #[{ accessFlags := 1, nameIndex := 5, descriptorIndex := 6, attributes := #[] }] 33 0 #[] #[])
  fields := #[]
  methods := #[k0m0]
  instanceTypes := #[]
  staticTypes := #[]
  resolved := Array.replicate 124 none
  statics := none }

def pool1 : Array CpInfo := pool [(2, .class_ 4), (1, u "java/lang/Object"), (0, u "<init>"), (0, u "()V"), (0, .long 1152921504606846975), (1, .long 4), (1, .long 5), (1, .methodref 14 15), (0, .class_ 16), (0, .nameAndType 17 18), (0, u "com/example/shawsheen/shawsheen/work/Budget"), (0, u "ofRows"), (0, u "(JJ)J"), (0, .methodref 14 20), (0, .nameAndType 21 22), (0, u "ofArray"), (0, u "(J)J"), (0, .class_ 24), (0, u "com/example/shawsheen/shawsheen/work/BudgetOfRowsPinLaw"), (2, u "law"), (0, u "(JJ)Z")] 3

def k1m0 : Method := { name := "<init>", desc := "()V", sig := { parameters := [], returnType := none }, accessFlags := 2, code := none }
def k1c1 : Code := { maxStack := 6, maxLocals := 16, code := code, exceptionTable := #[], attributes := #[] }
def k1m1 : Method := { name := "law", desc := "(JJ)Z", sig := { parameters := [.long, .long], returnType := some .boolean }, accessFlags := 9, code := some k1c1 }
/-- com/example/shawsheen/shawsheen/work/BudgetOfRowsPinLaw -/
def k1 : Class := { plain "com/example/shawsheen/shawsheen/work/BudgetOfRowsPinLaw" (some 0) with
  accessFlags := 49
  interfaces := #[]
  cf := some (fileOf pool1 23 #[] #[{ accessFlags := 2, nameIndex := 5, descriptorIndex := 6, attributes := #[] }, { accessFlags := 9, nameIndex := 27, descriptorIndex := 28, attributes := #[] }] 49 2 #[] #[])
  fields := #[]
  methods := #[k1m0, k1m1]
  instanceTypes := #[]
  staticTypes := #[]
  resolved := Array.replicate 32 none
  statics := none }

def pool2 : Array CpInfo := pool [(2, .class_ 4), (1, u "java/lang/Object"), (12, .class_ 19), (1, u "com/example/shawsheen/shawsheen/work/Budget"), (0, u "limit"), (0, u "J"), (2, u "exhausted"), (0, u "Z"), (2, u "spent"), (0, .class_ 30), (0, u "com/example/shawsheen/shawsheen/work/Budget$Exhausted"), (1, .long 4), (1, .long 2), (1, .methodref 17 37), (0, .nameAndType 38 39), (0, u "ofArray"), (0, u "(J)J"), (6, u "OBJECT_UNITS"), (8, u "ofRows"), (0, u "(JJ)J")] 21

def k2c0 : Code := { maxStack := 6, maxLocals := 2, code := prog_56_method_4_code, exceptionTable := #[], attributes := #[] }
def k2m0 : Method := { name := "ofArray", desc := "(J)J", sig := { parameters := [.long], returnType := some .long }, accessFlags := 9, code := some k2c0 }
def k2c1 : Code := { maxStack := 6, maxLocals := 4, code := prog_56_method_5_code, exceptionTable := #[], attributes := #[] }
def k2m1 : Method := { name := "ofRows", desc := "(JJ)J", sig := { parameters := [.long, .long], returnType := some .long }, accessFlags := 9, code := some k2c1 }
/-- com/example/shawsheen/shawsheen/work/Budget -/
def k2 : Class := { plain "com/example/shawsheen/shawsheen/work/Budget" (some 0) with
  accessFlags := 49
  interfaces := #[]
  cf := some (fileOf pool2 17 #[.nestMembers #[29]] #[{ accessFlags := 9, nameIndex := 38, descriptorIndex := 39, attributes := #[] }, { accessFlags := 9, nameIndex := 55, descriptorIndex := 56, attributes := #[] }] 49 2 #[] #[{ accessFlags := 26, nameIndex := 46, descriptorIndex := 21, attributes := #[] }, { accessFlags := 18, nameIndex := 20, descriptorIndex := 21, attributes := #[] }, { accessFlags := 2, nameIndex := 28, descriptorIndex := 21, attributes := #[] }, { accessFlags := 2, nameIndex := 24, descriptorIndex := 25, attributes := #[] }])
  fields := #[{ name := "OBJECT_UNITS", type := .long, accessFlags := 26, slot := 0, constantValue := 0 }, { name := "limit", type := .long, accessFlags := 18, slot := 0, constantValue := 0 }, { name := "spent", type := .long, accessFlags := 2, slot := 1, constantValue := 0 }, { name := "exhausted", type := .boolean, accessFlags := 2, slot := 2, constantValue := 0 }]
  methods := #[k2m0, k2m1]
  instanceTypes := #[.long, .long, .boolean]
  staticTypes := #[.long]
  resolved := Array.replicate 78 none
  statics := none }

def pool3 : Array CpInfo := pool [(1, u "java/lang/Cloneable"), (0, .class_ 1), (0, u "java/lang/Object"), (0, .class_ 3)] 3

/-- java/lang/Cloneable -/
def k3 : Class := { plain "java/lang/Cloneable" (some 0) with
  accessFlags := 1537
  interfaces := #[]
  cf := some (fileOf pool3 2 #[] #[] 1537 4 #[] #[])
  fields := #[]
  methods := #[]
  instanceTypes := #[]
  staticTypes := #[]
  resolved := Array.replicate 8 none
  statics := none }

def pool4 : Array CpInfo := pool [(1, u "java/io/Serializable"), (0, .class_ 1), (0, u "java/lang/Object"), (0, .class_ 3)] 3

/-- java/io/Serializable -/
def k4 : Class := { plain "java/io/Serializable" (some 0) with
  accessFlags := 1537
  interfaces := #[]
  cf := some (fileOf pool4 2 #[] #[] 1537 4 #[] #[])
  fields := #[]
  methods := #[]
  instanceTypes := #[]
  staticTypes := #[]
  resolved := Array.replicate 8 none
  statics := none }

/-- the primitive byte -/
def k5 : Class := { plain "byte" none with kind := .primitive 'B', accessFlags := 0x411 }
/-- [B -/
def k6 : Class := { plain "[B" (some 0) with kind := .array 5 .byte, interfaces := #[3, 4], accessFlags := 1041 }

/-- the primitive int -/
def k7 : Class := { plain "int" none with kind := .primitive 'I', accessFlags := 0x411 }
/-- [I -/
def k8 : Class := { plain "[I" (some 0) with kind := .array 7 .int, interfaces := #[3, 4], accessFlags := 1041 }

def heap : Heap := #[]
def classes : Array Class := #[k0, k1, k2, k3, k4, k5, k6, k7, k8]
def interned : List (Array UInt16 × Addr) := []
def slotsUsed : Nat := 0
def theMethod : MethodId := ⟨1, 1⟩
def args0 : Array Value := #[.long 5, .long 6]
def aboutOver (below : List Frame) : State where
  vm := { classes := classes, interned := interned.toArray }
  heap := heap
  slotsUsed := slotsUsed
  threads := #[{ frames := .invoking theMethod args0 :: below }]
def below0 : List Frame := [.native { method := ⟨0, 0⟩, args := #[] }]
def about1 : State := aboutOver below0
def p0 : Program := .bare "" "" ""
def e0 : Env := launch0.env 0 0 0
theorem w_frames : about1.frames = Frame.invoking theMethod args0 :: below0 := rfl
set_option maxRecDepth 65536 in
theorem w_args : argsFit about1.vm theMethod args0 = true := by decide +kernel
set_option maxRecDepth 65536 in
theorem w_heap : heapFits about1 = true := by decide +kernel
set_option maxRecDepth 65536 in
theorem w_runnable : about1.curStatus? = some .runnable := by decide +kernel
set_option maxRecDepth 65536 in
theorem w_alone : about1.alone = true := by decide +kernel
set_option maxRecDepth 65536 in
theorem w_named : about1.methodNamed? x = some theMethod := by decide +kernel
set_option maxRecDepth 65536 in
theorem w_hears : about1.hears theMethod below0 = true := by decide +kernel
set_option maxRecDepth 65536 in
theorem w_ripe : about1.ripe theMethod args0 below0 = true := by decide +kernel
theorem w_running : about1.status = .running := rfl
set_option maxRecDepth 65536 in
theorem w_room : about1.hasRoom e0.platform room_1 = true :=
  launch0.hasRoom_least _ room_1 (by decide +kernel) (by decide +kernel) (by decide +kernel) (by decide +kernel) (by decide +kernel) (by decide +kernel)
theorem allAtoms_all (ts : List Jvm.Cond) (a : Array Jvm.Value) (st : Jvm.State) : (allAtoms ts).before a st = ts.all (fun c => c.before a st) := by
  induction ts with
  | nil => rfl
  | cons c t ih =>
    show (Jvm.Cond.and c (allAtoms t)).before a st = _
    rw [Jvm.Cond.before_and, ih, List.all_cons]
def words1 : List Jvm.Cond := Jvm.Cond.code x code maxLocals ret :: tables_1
/-- a 'code' word, met by the world's own term for the bytes: nothing is compared byte by byte -/
theorem code_word {y : MethodName} {bytes : ByteArray} {mx : Nat} {rt : Option FieldType} {a : Array Value} {s : State} {m : MethodId} {meth : Method} {c : Code} (h1 : s.methodNamed? y = some m) (h2 : s.vm.method? m = some meth) (h3 : meth.code = some c) (h4 : c.code = bytes)
    (h5 : (c.maxLocals == mx && c.exceptionTable.isEmpty && decide (c.maxStack ≤ mostOperands) && decide (meth.sig.returnType = rt) && !meth.locks && decide (parseMethodDescriptor y.desc = some meth.sig)) = true) : (Jvm.Cond.code y bytes mx rt).before a s = true := by
  simp only [Bool.and_eq_true, beq_iff_eq, Bool.not_eq_true', decide_eq_true_eq] at h5
  obtain ⟨⟨⟨⟨⟨g1, g2⟩, g3⟩, g4⟩, g5⟩, g6⟩ := h5
  simp [Cond.before, Cond.holds, Cond.value, h1, h2, h3, h4, g1, g2, g3, g4, g5, g6]
def isCode : Jvm.Cond → Bool
  | .code _ _ _ _ => true
  | _ => false
theorem all_split {L : List Jvm.Cond} {P : Jvm.Cond → Bool} (h1 : L.all (fun c => isCode c || P c) = true) (h2 : ∀ c ∈ L.filter isCode, P c = true) : L.all P = true := by
  refine List.all_eq_true.mpr fun c hc => ?_
  have h := List.all_eq_true.mp h1 c hc
  rcases Bool.eq_false_or_eq_true (isCode c) with hi | hi
  · exact h2 c (List.mem_filter.mpr ⟨hc, hi⟩)
  · simpa [hi] using h
set_option maxRecDepth 65536 in
theorem w_c0 : (Jvm.Cond.code x code maxLocals ret).before args0 about1 = true := code_word (m := ⟨1, 1⟩) (meth := k1m1) (c := k1c1) (by decide +kernel) rfl rfl rfl (by decide +kernel)
set_option maxRecDepth 65536 in
theorem w_c1 : (Jvm.Cond.code ({ cls := "com/example/shawsheen/shawsheen/work/Budget", name := "ofRows", desc := "(JJ)J" } : Jvm.MethodName) prog_56_method_5_code (4 : Nat) (Option.some Jvm.ClassFile.FieldType.long)).before args0 about1 = true := code_word (m := ⟨2, 1⟩) (meth := k2m1) (c := k2c1) (by decide +kernel) rfl rfl rfl (by decide +kernel)
set_option maxRecDepth 65536 in
theorem w_c2 : (Jvm.Cond.code ({ cls := "com/example/shawsheen/shawsheen/work/Budget", name := "ofArray", desc := "(J)J" } : Jvm.MethodName) prog_56_method_4_code (2 : Nat) (Option.some Jvm.ClassFile.FieldType.long)).before args0 about1 = true := code_word (m := ⟨2, 0⟩) (meth := k2m0) (c := k2c0) (by decide +kernel) rfl rfl rfl (by decide +kernel)
def codes1 : List Jvm.Cond := [Jvm.Cond.code x code maxLocals ret, Jvm.Cond.code ({ cls := "com/example/shawsheen/shawsheen/work/Budget", name := "ofRows", desc := "(JJ)J" } : Jvm.MethodName) prog_56_method_5_code (4 : Nat) (Option.some Jvm.ClassFile.FieldType.long), Jvm.Cond.code ({ cls := "com/example/shawsheen/shawsheen/work/Budget", name := "ofArray", desc := "(J)J" } : Jvm.MethodName) prog_56_method_4_code (2 : Nat) (Option.some Jvm.ClassFile.FieldType.long)]
set_option maxRecDepth 65536 in
theorem codes_eq : words1.filter isCode = codes1 := rfl
theorem w_codes : ∀ c ∈ words1.filter isCode, c.before args0 about1 = true := by
  rw [codes_eq]
  intro c hc
  simp only [codes1, List.mem_cons, List.not_mem_nil, or_false] at hc
  rcases hc with rfl | rfl | rfl
  · exact w_c0
  · exact w_c1
  · exact w_c2
set_option maxRecDepth 65536 in
theorem w_t1 : words1.all (fun c => isCode c || c.before args0 about1) = true := by decide +kernel
theorem w_tables : (allAtoms (Jvm.Cond.code x code maxLocals ret :: tables_1)).before args0 about1 = true := by
  rw [allAtoms_all]
  show words1.all (fun c => c.before args0 about1) = true
  refine all_split ?_ w_codes
  rw [w_t1]
set_option maxRecDepth 65536 in
theorem w_case : (Jvm.Cond.and given_1 narrow_1).before args0 about1 = true := by decide +kernel
theorem w_applies : (headSpec (Jvm.Cond.code x code maxLocals ret :: tables_1) room_1).applies x e0.platform about1 = true :=
  (Spec.applies_iff w_frames).mpr ⟨w_running, w_runnable, w_alone, w_named, w_hears, w_ripe, w_room, w_tables⟩
theorem atStart : AtStart classFile x code maxLocals ret World_1 tables_1 room_1 Calls_1 rest_1 Pre_1 launch0 p0 e0 about1 theMethod args0 below0 :=
  ⟨lists_1, trivial, launch0.admits_env _ _ _, launch0.least_env, fairChoices_fair.cas, fairChoices_fair.clock, w_frames, w_args, w_heap, w_applies, trivial, trivial, w_case⟩
end start1
theorem witness_1 : WitnessClaimed_1 := ⟨start1.p0, start1.e0, start1.about1, start1.theMethod, start1.args0, start1.below0, start1.atStart⟩
end Jvm.Pilot.@@N@@
