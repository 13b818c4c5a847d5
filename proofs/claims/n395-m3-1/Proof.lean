import JvmDerived
import JvmDerived.Pilot.@@N@@Statement
import JvmDerived.Pilot.@@N@@Code
set_option linter.unusedVariables false
set_option linter.unusedSimpArgs false
namespace Jvm.Pilot.@@N@@
open Jvm Jvm.ClassFile Sem Op Lib Jvm.Free Jvm.Stand Jvm.LawKit Jvm.RoadKit Bundle Jvm.Pilot.@@N@@.Jvm.D

/-! ### the own kit: a walk's goal in continuation form -/
def Go (p : Program) (e : Env) (below : List Frame) (Φ : Outcome → State → Prop) (U : State) : Prop :=
  ∃ s₂ o, Steps p.tables e below U s₂ ∧ s₂.status = .running ∧ Ended s₂ below o ∧ Φ o s₂
def Fin0 (s : State) (rm : Room) (Q : Option Value → Heap → List Loc → Prop) : Outcome → State → Prop :=
  fun o U' => ∃ v L, o = .returned v ∧ Q v U'.heap L ∧ FrameEnd s o U' L rm.cells rm.slots
abbrev Ctr (l : Launch) (Z : State) (y : MethodName) (bytes : ByteArray) (ml : Nat) (rt : Option FieldType) (rm : Room) (ws : List Jvm.Cond) (as' : Array Value) (h0 : Heap) (Q : Option Value → Heap → List Loc → Prop) : Prop :=
  MetFree l y (head1 (Jvm.Cond.code y bytes ml rt :: ws) rm) (fun a U => a = as' ∧ Z.Warmed39 U.vm ∧ U.heap = h0) (fun _ _ _ _ _ => True) (fun _ U o U' => ∃ v L, o = .returned v ∧ Q v U'.heap L ∧ FrameEnd U o U' L rm.cells rm.slots)
def b2i (b : Bool) : Int32 := if b then 1 else 0
theorem b2i_t : b2i true = 1 := rfl
theorem b2i_f : b2i false = 0 := rfl
theorem b2i_nar (b : Bool) : nar .boolean (b2i b) = b2i b := by cases b <;> rfl
theorem b2i_inj {a b : Bool} : b2i a = b2i b ↔ a = b := by cases a <;> cases b <;> decide
theorem i32e {x y : Int32} : x = y ↔ x.toInt = y.toInt := Int32.toInt_inj.symm
theorem i64e {x y : Int64} : x = y ↔ x.toInt = y.toInt := Int64.toInt_inj.symm
theorem okB {b : Bool} (h : b = true) : some (Value.int (b2i b)) = some (Value.int 1) := by rw [h]; rfl
theorem eqT {P : Prop} [Decidable P] (h : P) : some (Value.int (b2i true)) = some (Value.int (b2i (decide P))) := by rw [decide_eq_true h]
theorem eqF {P : Prop} [Decidable P] (h : ¬ P) : some (Value.int (b2i false)) = some (Value.int (b2i (decide P))) := by rw [decide_eq_false h]
theorem eqD {P Q : Prop} [Decidable P] [Decidable Q] (h : Q ↔ P) : some (Value.int (b2i (decide Q))) = some (Value.int (b2i (decide P))) := by rw [decide_eq_decide.mpr h]
theorem eqB {P : Prop} [Decidable P] {b : Bool} (h : b = true ↔ P) : some (Value.int (b2i b)) = some (Value.int (b2i (decide P))) := by
  rw [show b = decide P from by by_cases q : P <;> simp [q, h] <;> (cases b <;> simp_all)]
/-- what a pure callee leaves that returns an int (a long) of which P is said -/
def IQ (P : Int32 → Prop) (h0 : Heap) : Option Value → Heap → List Loc → Prop := fun v h L => ∃ r, v = some (.int r) ∧ P r ∧ h = h0 ∧ L = []
def JQ (P : Int64 → Prop) (h0 : Heap) : Option Value → Heap → List Loc → Prop := fun v h L => ∃ r, v = some (.long r) ∧ P r ∧ h = h0 ∧ L = []
/-- what a pure callee leaves -/
def PQ (r : Value) (h0 : Heap) : Option Value → Heap → List Loc → Prop := fun v h L => v = some r ∧ h = h0 ∧ L = []
theorem Ctr.of {l : Launch} {Z : State} {y : MethodName} {bytes : ByteArray} {ml : Nat} {rt : Option FieldType} {rm : Room} {ws : List Jvm.Cond} {as' : Array Value} {h0 : Heap} {Q : Option Value → Heap → List Loc → Prop} (hp : plainFor y = true)
    (body : ∀ (p : Program) (e : Env) (s : State) (m : MethodId) (below : List Frame) (meth : Method) (c : Code) (s₁ : State), p.tables.exec = Jvm.exec → c.code = bytes → c.maxLocals = ml → meth.sig.returnType = rt → meth.locks = false → meth.name = y.name → s.vm.findClass y.cls = some m.cls → Z.Warmed39 s.vm → Stand p l e rm s m as' below meth c s₁ [] 0 0 → s₁.heap = h0 →
      Go p e below (Fin0 s rm Q) (s₁.setTop (entryFrame m as' ml))) : Ctr l Z y bytes ml rt rm ws as' h0 Q := by
  refine MetFree.of_bodySF hp hisR ?_
  intro p e s m args below meth c s₁ Bd hml0 hP hK
  obtain ⟨rfl, hZ, hh⟩ := hP
  obtain ⟨s₂, o, g1, g2, g3, v, L, g4, g5, g6⟩ := body p e s m below meth c s₁ Bd.exec Bd.bytes hml0 Bd.returns Bd.notSynchronized (name_of_methodNamed Bd.named Bd.method).1 (findClass_of_methodNamed Bd.named) hZ (Stand.of_body Bd) (by rw [← hh, Bd.state]; rfl)
  exact ⟨s₂, o, g1, g2, g3, v, L, g4, g5, g6⟩
theorem st_one {L L' : Array Slot} {i : Nat} {o : Slot} {v : Value} (h : L[i]? = some o) (ho : One o) (hv : v.category = 1) (hL : L.setIfInBounds i (.val v) = L') : storeLocals L i v = some L' := by
  rw [XS.store1 h ho hv, hL]
section OwnKit
variable {p : Program} {l : Launch} {e : Env} {R : Room} {s : State} {m : MethodId} {args : Array Value} {below : List Frame} {meth : Method} {c : Code} {T : State} {locs : List Loc} {cells slots : Nat} {Z : State} {a0 : Array Value} {h : Heap} {Φ : Outcome → State → Prop} {pc q : Nat} {L : Array Slot} {S : List Value}
theorem Go.by {U U' : State} (h : ∀ t, Steps p.tables e below U' t → Steps p.tables e below U t) (k : Go p e below Φ U') : Go p e below Φ U := by
  obtain ⟨s₂, o, h1, r⟩ := k; exact ⟨s₂, o, h _ h1, r⟩
theorem Go.cast {g g' : JFrame} (q : g = g') (k : Go p e below Φ (T.setTop g')) : Go p e below Φ (T.setTop g) := q ▸ k
theorem g_iloadN (hA : At T m c below) (hx : p.tables.exec = Jvm.exec) {j : Fin 4} {v : Int32} (hd : decode c.code pc = .ok (.iload_n j, 1)) (hl : L[j.val]? = some (.val (.int v))) (hq : pc + 1 = q) (k : Go p e below Φ (T.setTop (mkF m q L (.int v :: S)))) : Go p e below Φ (T.setTop (mkF m pc L S)) := by
  subst hq; exact Go.by (fun _ => XS.iloadN hA hx rfl hd hl) k
theorem g_iload (hA : At T m c below) (hx : p.tables.exec = Jvm.exec) {j : Nat} {v : Int32} (hd : decode c.code pc = .ok (.iload j, 2)) (hl : L[j]? = some (.val (.int v))) (hq : pc + 2 = q) (k : Go p e below Φ (T.setTop (mkF m q L (.int v :: S)))) : Go p e below Φ (T.setTop (mkF m pc L S)) := by
  subst hq; exact Go.by (fun _ => XS.iload hA hx rfl hd hl) k
theorem g_istoreN (hA : At T m c below) (hx : p.tables.exec = Jvm.exec) {j : Fin 4} {v : Int32} {L' : Array Slot} (hd : decode c.code pc = .ok (.istore_n j, 1)) (hl : storeLocals L j.val (.int v) = some L') (hq : pc + 1 = q) (k : Go p e below Φ (T.setTop (mkF m q L' S))) : Go p e below Φ (T.setTop (mkF m pc L (.int v :: S))) := by
  subst hq; exact Go.by (fun _ => XS.istoreN hA hx rfl hd rfl hl) k
theorem g_istore (hA : At T m c below) (hx : p.tables.exec = Jvm.exec) {j : Nat} {v : Int32} {L' : Array Slot} (hd : decode c.code pc = .ok (.istore j, 2)) (hl : storeLocals L j (.int v) = some L') (hq : pc + 2 = q) (k : Go p e below Φ (T.setTop (mkF m q L' S))) : Go p e below Φ (T.setTop (mkF m pc L (.int v :: S))) := by
  subst hq; exact Go.by (fun _ => XS.istore hA hx rfl hd rfl hl) k
theorem g_lloadN (hA : At T m c below) (hx : p.tables.exec = Jvm.exec) {j : Fin 4} {v : Int64} (hd : decode c.code pc = .ok (.lload_n j, 1)) (hl : L[j.val]? = some (.val (.long v))) (hq : pc + 1 = q) (k : Go p e below Φ (T.setTop (mkF m q L (.long v :: S)))) : Go p e below Φ (T.setTop (mkF m pc L S)) := by
  subst hq; exact Go.by (fun _ => XS.lloadN hA hx rfl hd hl) k
theorem g_lload (hA : At T m c below) (hx : p.tables.exec = Jvm.exec) {j : Nat} {v : Int64} (hd : decode c.code pc = .ok (.lload j, 2)) (hl : L[j]? = some (.val (.long v))) (hq : pc + 2 = q) (k : Go p e below Φ (T.setTop (mkF m q L (.long v :: S)))) : Go p e below Φ (T.setTop (mkF m pc L S)) := by
  subst hq; exact Go.by (fun _ => XS.lload hA hx rfl hd hl) k
theorem g_lstoreN (hA : At T m c below) (hx : p.tables.exec = Jvm.exec) {j : Fin 4} {v : Int64} {L' : Array Slot} (hd : decode c.code pc = .ok (.lstore_n j, 1)) (hl : storeLocals L j.val (.long v) = some L') (hq : pc + 1 = q) (k : Go p e below Φ (T.setTop (mkF m q L' S))) : Go p e below Φ (T.setTop (mkF m pc L (.long v :: S))) := by
  subst hq; exact Go.by (fun _ => XS.lstoreN hA hx rfl hd rfl hl) k
theorem g_lstore (hA : At T m c below) (hx : p.tables.exec = Jvm.exec) {j : Nat} {v : Int64} {L' : Array Slot} (hd : decode c.code pc = .ok (.lstore j, 2)) (hl : storeLocals L j (.long v) = some L') (hq : pc + 2 = q) (k : Go p e below Φ (T.setTop (mkF m q L' S))) : Go p e below Φ (T.setTop (mkF m pc L (.long v :: S))) := by
  subst hq; exact Go.by (fun _ => XS.lstore hA hx rfl hd rfl hl) k
theorem g_aloadN (hA : At T m c below) (hx : p.tables.exec = Jvm.exec) {j : Fin 4} {v : Value} (hd : decode c.code pc = .ok (.aload_n j, 1)) (hl : L[j.val]? = some (.val v)) (hv : v.isRef = true) (hq : pc + 1 = q) (k : Go p e below Φ (T.setTop (mkF m q L (v :: S)))) : Go p e below Φ (T.setTop (mkF m pc L S)) := by
  subst hq; exact Go.by (fun _ => XS.aloadN hA hx rfl hd hl hv) k
theorem g_aload (hA : At T m c below) (hx : p.tables.exec = Jvm.exec) {j : Nat} {v : Value} (hd : decode c.code pc = .ok (.aload j, 2)) (hl : L[j]? = some (.val v)) (hv : v.isRef = true) (hq : pc + 2 = q) (k : Go p e below Φ (T.setTop (mkF m q L (v :: S)))) : Go p e below Φ (T.setTop (mkF m pc L S)) := by
  subst hq; exact Go.by (fun _ => XS.aload hA hx rfl hd hl hv) k
theorem g_astoreN (hA : At T m c below) (hx : p.tables.exec = Jvm.exec) {j : Fin 4} {v : Value} {L' : Array Slot} (hd : decode c.code pc = .ok (.astore_n j, 1)) (hv : v.isRef = true) (hl : storeLocals L j.val v = some L') (hq : pc + 1 = q) (k : Go p e below Φ (T.setTop (mkF m q L' S))) : Go p e below Φ (T.setTop (mkF m pc L (v :: S))) := by
  subst hq; exact Go.by (fun _ => XS.astoreN hA hx rfl hd rfl hv hl) k
theorem g_astore (hA : At T m c below) (hx : p.tables.exec = Jvm.exec) {j : Nat} {v : Value} {L' : Array Slot} (hd : decode c.code pc = .ok (.astore j, 2)) (hv : v.isRef = true) (hl : storeLocals L j v = some L') (hq : pc + 2 = q) (k : Go p e below Φ (T.setTop (mkF m q L' S))) : Go p e below Φ (T.setTop (mkF m pc L (v :: S))) := by
  subst hq; exact Go.by (fun _ => XS.astore hA hx rfl hd rfl hv hl) k
theorem g_iconst (hA : At T m c below) (hx : p.tables.exec = Jvm.exec) {i : Int} {v : Int32} (hd : decode c.code pc = .ok (.iconst i, 1)) (hv : Int32.ofInt i = v) (hq : pc + 1 = q) (k : Go p e below Φ (T.setTop (mkF m q L (.int v :: S)))) : Go p e below Φ (T.setTop (mkF m pc L S)) := by
  subst hq hv; exact Go.by (fun _ => XS.iconst hA hx rfl hd) k
theorem g_bipush (hA : At T m c below) (hx : p.tables.exec = Jvm.exec) {i : Int} {v : Int32} (hd : decode c.code pc = .ok (.bipush i, 2)) (hv : (Int8.ofInt i).toInt32 = v) (hq : pc + 2 = q) (k : Go p e below Φ (T.setTop (mkF m q L (.int v :: S)))) : Go p e below Φ (T.setTop (mkF m pc L S)) := by
  subst hq hv; exact Go.by (fun _ => XS.bipush hA hx rfl hd) k
theorem g_sipush (hA : At T m c below) (hx : p.tables.exec = Jvm.exec) {i : Int} {v : Int32} (hd : decode c.code pc = .ok (.sipush i, 3)) (hv : (Int16.ofInt i).toInt32 = v) (hq : pc + 3 = q) (k : Go p e below Φ (T.setTop (mkF m q L (.int v :: S)))) : Go p e below Φ (T.setTop (mkF m pc L S)) := by
  subst hq hv; exact Go.by (fun _ => XS.sipush hA hx rfl hd) k
theorem g_lconst0 (hA : At T m c below) (hx : p.tables.exec = Jvm.exec) (hd : decode c.code pc = .ok (.lconst 0, 1)) (hq : pc + 1 = q) (k : Go p e below Φ (T.setTop (mkF m q L (.long 0 :: S)))) : Go p e below Φ (T.setTop (mkF m pc L S)) := by
  subst hq; exact Go.by (fun _ => XS.lconst hA hx rfl hd) k
theorem g_lconst1 (hA : At T m c below) (hx : p.tables.exec = Jvm.exec) (hd : decode c.code pc = .ok (.lconst 1, 1)) (hq : pc + 1 = q) (k : Go p e below Φ (T.setTop (mkF m q L (.long 1 :: S)))) : Go p e below Φ (T.setTop (mkF m pc L S)) := by
  subst hq; exact Go.by (fun _ => XS.lconst hA hx rfl hd) k
theorem g_aconst_null (hA : At T m c below) (hx : p.tables.exec = Jvm.exec) (hd : decode c.code pc = .ok (.aconst_null, 1)) (hq : pc + 1 = q) (k : Go p e below Φ (T.setTop (mkF m q L (.null :: S)))) : Go p e below Φ (T.setTop (mkF m pc L S)) := by
  subst hq; exact Go.by (fun _ => XS.aconstNull hA hx rfl hd) k
theorem g_iadd (hA : At T m c below) (hx : p.tables.exec = Jvm.exec) {x y : Int32} (hd : decode c.code pc = .ok (.iadd, 1)) (hq : pc + 1 = q) (k : Go p e below Φ (T.setTop (mkF m q L (.int (x + y) :: S)))) : Go p e below Φ (T.setTop (mkF m pc L (.int y :: .int x :: S))) := by
  subst hq; exact Go.by (fun _ => XS.iadd hA hx rfl hd rfl) k
theorem g_isub (hA : At T m c below) (hx : p.tables.exec = Jvm.exec) {x y : Int32} (hd : decode c.code pc = .ok (.isub, 1)) (hq : pc + 1 = q) (k : Go p e below Φ (T.setTop (mkF m q L (.int (x - y) :: S)))) : Go p e below Φ (T.setTop (mkF m pc L (.int y :: .int x :: S))) := by
  subst hq; exact Go.by (fun _ => XS.isub hA hx rfl hd rfl) k
theorem g_imul (hA : At T m c below) (hx : p.tables.exec = Jvm.exec) {x y : Int32} (hd : decode c.code pc = .ok (.imul, 1)) (hq : pc + 1 = q) (k : Go p e below Φ (T.setTop (mkF m q L (.int (x * y) :: S)))) : Go p e below Φ (T.setTop (mkF m pc L (.int y :: .int x :: S))) := by
  subst hq; exact Go.by (fun _ => XS.imul hA hx rfl hd rfl) k
theorem g_iand (hA : At T m c below) (hx : p.tables.exec = Jvm.exec) {x y : Int32} (hd : decode c.code pc = .ok (.iand, 1)) (hq : pc + 1 = q) (k : Go p e below Φ (T.setTop (mkF m q L (.int (x &&& y) :: S)))) : Go p e below Φ (T.setTop (mkF m pc L (.int y :: .int x :: S))) := by
  subst hq; exact Go.by (fun _ => XS.iand hA hx rfl hd rfl) k
theorem g_ior (hA : At T m c below) (hx : p.tables.exec = Jvm.exec) {x y : Int32} (hd : decode c.code pc = .ok (.ior, 1)) (hq : pc + 1 = q) (k : Go p e below Φ (T.setTop (mkF m q L (.int (x ||| y) :: S)))) : Go p e below Φ (T.setTop (mkF m pc L (.int y :: .int x :: S))) := by
  subst hq; exact Go.by (fun _ => XS.ior hA hx rfl hd rfl) k
theorem g_ixor (hA : At T m c below) (hx : p.tables.exec = Jvm.exec) {x y : Int32} (hd : decode c.code pc = .ok (.ixor, 1)) (hq : pc + 1 = q) (k : Go p e below Φ (T.setTop (mkF m q L (.int (x ^^^ y) :: S)))) : Go p e below Φ (T.setTop (mkF m pc L (.int y :: .int x :: S))) := by
  subst hq; exact Go.by (fun _ => XS.ixor hA hx rfl hd rfl) k
theorem g_ishl (hA : At T m c below) (hx : p.tables.exec = Jvm.exec) {x y : Int32} (hd : decode c.code pc = .ok (.ishl, 1)) (hq : pc + 1 = q) (k : Go p e below Φ (T.setTop (mkF m q L (.int (x <<< (y &&& 31)) :: S)))) : Go p e below Φ (T.setTop (mkF m pc L (.int y :: .int x :: S))) := by
  subst hq; exact Go.by (fun _ => XS.ishl hA hx rfl hd rfl) k
theorem g_ishr (hA : At T m c below) (hx : p.tables.exec = Jvm.exec) {x y : Int32} (hd : decode c.code pc = .ok (.ishr, 1)) (hq : pc + 1 = q) (k : Go p e below Φ (T.setTop (mkF m q L (.int (x >>> (y &&& 31)) :: S)))) : Go p e below Φ (T.setTop (mkF m pc L (.int y :: .int x :: S))) := by
  subst hq; exact Go.by (fun _ => XS.ishr hA hx rfl hd rfl) k
theorem g_iushr (hA : At T m c below) (hx : p.tables.exec = Jvm.exec) {x y : Int32} (hd : decode c.code pc = .ok (.iushr, 1)) (hq : pc + 1 = q) (k : Go p e below Φ (T.setTop (mkF m q L (.int ((x.toUInt32 >>> (y &&& 31).toUInt32).toInt32) :: S)))) : Go p e below Φ (T.setTop (mkF m pc L (.int y :: .int x :: S))) := by
  subst hq; exact Go.by (fun _ => XS.iushr hA hx rfl hd rfl) k
theorem g_ladd (hA : At T m c below) (hx : p.tables.exec = Jvm.exec) {x y : Int64} (hd : decode c.code pc = .ok (.ladd, 1)) (hq : pc + 1 = q) (k : Go p e below Φ (T.setTop (mkF m q L (.long (x + y) :: S)))) : Go p e below Φ (T.setTop (mkF m pc L (.long y :: .long x :: S))) := by
  subst hq; exact Go.by (fun _ => XS.ladd hA hx rfl hd rfl) k
theorem g_lsub (hA : At T m c below) (hx : p.tables.exec = Jvm.exec) {x y : Int64} (hd : decode c.code pc = .ok (.lsub, 1)) (hq : pc + 1 = q) (k : Go p e below Φ (T.setTop (mkF m q L (.long (x - y) :: S)))) : Go p e below Φ (T.setTop (mkF m pc L (.long y :: .long x :: S))) := by
  subst hq; exact Go.by (fun _ => XS.lsub hA hx rfl hd rfl) k
theorem g_lmul (hA : At T m c below) (hx : p.tables.exec = Jvm.exec) {x y : Int64} (hd : decode c.code pc = .ok (.lmul, 1)) (hq : pc + 1 = q) (k : Go p e below Φ (T.setTop (mkF m q L (.long (x * y) :: S)))) : Go p e below Φ (T.setTop (mkF m pc L (.long y :: .long x :: S))) := by
  subst hq; exact Go.by (fun _ => XS.lmul hA hx rfl hd rfl) k
theorem g_land (hA : At T m c below) (hx : p.tables.exec = Jvm.exec) {x y : Int64} (hd : decode c.code pc = .ok (.land, 1)) (hq : pc + 1 = q) (k : Go p e below Φ (T.setTop (mkF m q L (.long (x &&& y) :: S)))) : Go p e below Φ (T.setTop (mkF m pc L (.long y :: .long x :: S))) := by
  subst hq; exact Go.by (fun _ => XS.land hA hx rfl hd rfl) k
theorem g_lor (hA : At T m c below) (hx : p.tables.exec = Jvm.exec) {x y : Int64} (hd : decode c.code pc = .ok (.lor, 1)) (hq : pc + 1 = q) (k : Go p e below Φ (T.setTop (mkF m q L (.long (x ||| y) :: S)))) : Go p e below Φ (T.setTop (mkF m pc L (.long y :: .long x :: S))) := by
  subst hq; exact Go.by (fun _ => XS.lor hA hx rfl hd rfl) k
theorem g_lxor (hA : At T m c below) (hx : p.tables.exec = Jvm.exec) {x y : Int64} (hd : decode c.code pc = .ok (.lxor, 1)) (hq : pc + 1 = q) (k : Go p e below Φ (T.setTop (mkF m q L (.long (x ^^^ y) :: S)))) : Go p e below Φ (T.setTop (mkF m pc L (.long y :: .long x :: S))) := by
  subst hq; exact Go.by (fun _ => XS.lxor hA hx rfl hd rfl) k
theorem g_lshl (hA : At T m c below) (hx : p.tables.exec = Jvm.exec) {x : Int64} {y : Int32} (hd : decode c.code pc = .ok (.lshl, 1)) (hq : pc + 1 = q) (k : Go p e below Φ (T.setTop (mkF m q L (.long (x <<< (y &&& 0x3f).toInt64) :: S)))) : Go p e below Φ (T.setTop (mkF m pc L (.int y :: .long x :: S))) := by
  subst hq; exact Go.by (fun _ => XS.lshl hA hx rfl hd rfl) k
theorem g_lshr (hA : At T m c below) (hx : p.tables.exec = Jvm.exec) {x : Int64} {y : Int32} (hd : decode c.code pc = .ok (.lshr, 1)) (hq : pc + 1 = q) (k : Go p e below Φ (T.setTop (mkF m q L (.long (x >>> (y &&& 0x3f).toInt64) :: S)))) : Go p e below Φ (T.setTop (mkF m pc L (.int y :: .long x :: S))) := by
  subst hq; exact Go.by (fun _ => XS.lshr hA hx rfl hd rfl) k
theorem g_lushr (hA : At T m c below) (hx : p.tables.exec = Jvm.exec) {x : Int64} {y : Int32} (hd : decode c.code pc = .ok (.lushr, 1)) (hq : pc + 1 = q) (k : Go p e below Φ (T.setTop (mkF m q L (.long ((x.toUInt64 >>> (y &&& 0x3f).toInt64.toUInt64).toInt64) :: S)))) : Go p e below Φ (T.setTop (mkF m pc L (.int y :: .long x :: S))) := by
  subst hq; exact Go.by (fun _ => XS.lushr hA hx rfl hd rfl) k
theorem g_idiv (hA : At T m c below) (hx : p.tables.exec = Jvm.exec) {x y : Int32} (hd : decode c.code pc = .ok (.idiv, 1)) (hy : y ≠ 0) (hq : pc + 1 = q) (k : Go p e below Φ (T.setTop (mkF m q L (.int (x / y) :: S)))) : Go p e below Φ (T.setTop (mkF m pc L (.int y :: .int x :: S))) := by
  subst hq; exact Go.by (fun _ => XS.idiv hA hx rfl hd rfl hy) k
theorem g_irem (hA : At T m c below) (hx : p.tables.exec = Jvm.exec) {x y : Int32} (hd : decode c.code pc = .ok (.irem, 1)) (hy : y ≠ 0) (hq : pc + 1 = q) (k : Go p e below Φ (T.setTop (mkF m q L (.int (x % y) :: S)))) : Go p e below Φ (T.setTop (mkF m pc L (.int y :: .int x :: S))) := by
  subst hq; exact Go.by (fun _ => fun r => XS.irem hA hx rfl hd rfl hy (by rw [irem_eq_mod x y]; exact r)) k
theorem g_ldiv (hA : At T m c below) (hx : p.tables.exec = Jvm.exec) {x y : Int64} (hd : decode c.code pc = .ok (.ldiv, 1)) (hy : y ≠ 0) (hq : pc + 1 = q) (k : Go p e below Φ (T.setTop (mkF m q L (.long (x / y) :: S)))) : Go p e below Φ (T.setTop (mkF m pc L (.long y :: .long x :: S))) := by
  subst hq; exact Go.by (fun _ => XS.ldiv hA hx rfl hd rfl hy) k
theorem g_lrem (hA : At T m c below) (hx : p.tables.exec = Jvm.exec) {x y : Int64} (hd : decode c.code pc = .ok (.lrem, 1)) (hy : y ≠ 0) (hq : pc + 1 = q) (k : Go p e below Φ (T.setTop (mkF m q L (.long (x % y) :: S)))) : Go p e below Φ (T.setTop (mkF m pc L (.long y :: .long x :: S))) := by
  subst hq; exact Go.by (fun _ => fun r => XS.lrem hA hx rfl hd rfl hy (by rw [lrem_mod x y]; exact r)) k
theorem g_ineg (hA : At T m c below) (hx : p.tables.exec = Jvm.exec) {x : Int32} (hd : decode c.code pc = .ok (.ineg, 1)) (hq : pc + 1 = q) (k : Go p e below Φ (T.setTop (mkF m q L (.int (-x) :: S)))) : Go p e below Φ (T.setTop (mkF m pc L (.int x :: S))) := by
  subst hq; exact Go.by (fun _ => XS.ineg hA hx rfl hd rfl) k
theorem g_i2l (hA : At T m c below) (hx : p.tables.exec = Jvm.exec) {x : Int32} (hd : decode c.code pc = .ok (.i2l, 1)) (hq : pc + 1 = q) (k : Go p e below Φ (T.setTop (mkF m q L (.long x.toInt64 :: S)))) : Go p e below Φ (T.setTop (mkF m pc L (.int x :: S))) := by
  subst hq; exact Go.by (fun _ => XS.i2l hA hx rfl hd rfl) k
theorem g_l2i (hA : At T m c below) (hx : p.tables.exec = Jvm.exec) {x : Int64} (hd : decode c.code pc = .ok (.l2i, 1)) (hq : pc + 1 = q) (k : Go p e below Φ (T.setTop (mkF m q L (.int x.toInt32 :: S)))) : Go p e below Φ (T.setTop (mkF m pc L (.long x :: S))) := by
  subst hq; exact Go.by (fun _ => XS.l2i hA hx rfl hd rfl) k
theorem g_i2c (hA : At T m c below) (hx : p.tables.exec = Jvm.exec) {x : Int32} (hd : decode c.code pc = .ok (.i2c, 1)) (hq : pc + 1 = q) (k : Go p e below Φ (T.setTop (mkF m q L (.int x.toUInt32.toUInt16.toUInt32.toInt32 :: S)))) : Go p e below Φ (T.setTop (mkF m pc L (.int x :: S))) := by
  subst hq; exact Go.by (fun _ => XS.i2c hA hx rfl hd rfl) k
theorem g_lcmp (hA : At T m c below) (hx : p.tables.exec = Jvm.exec) {x y : Int64} (hd : decode c.code pc = .ok (.lcmp, 1)) (hq : pc + 1 = q) (k : Go p e below Φ (T.setTop (mkF m q L (.int (lcmpW x y) :: S)))) : Go p e below Φ (T.setTop (mkF m pc L (.long y :: .long x :: S))) := by
  subst hq; exact Go.by (fun _ => XS.lcmp hA hx rfl hd rfl) k
theorem g_iinc (hA : At T m c below) (hx : p.tables.exec = Jvm.exec) {j : Nat} {i : Int} {x v : Int32} {L' : Array Slot} (hd : decode c.code pc = .ok (.iinc j i, 3)) (hl : L[j]? = some (.val (.int x))) (hv : x + Int32.ofInt i = v) (hl' : storeLocals L j (.int v) = some L') (hq : pc + 3 = q) (k : Go p e below Φ (T.setTop (mkF m q L' S))) : Go p e below Φ (T.setTop (mkF m pc L S)) := by
  subst hq; exact Go.by (fun _ => XS.iinc hA hx rfl hd hl (by rw [hv]; exact hl')) k
theorem g_dup (hA : At T m c below) (hx : p.tables.exec = Jvm.exec) {v : Value} (hd : decode c.code pc = .ok (.dup, 1)) (hv : v.category = 1) (hq : pc + 1 = q) (k : Go p e below Φ (T.setTop (mkF m q L (v :: v :: S)))) : Go p e below Φ (T.setTop (mkF m pc L (v :: S))) := by
  subst hq; exact Go.by (fun _ => XS.dup hA hx rfl hd rfl hv) k
theorem g_pop (hA : At T m c below) (hx : p.tables.exec = Jvm.exec) {v : Value} (hd : decode c.code pc = .ok (.pop, 1)) (hv : v.category = 1) (hq : pc + 1 = q) (k : Go p e below Φ (T.setTop (mkF m q L S))) : Go p e below Φ (T.setTop (mkF m pc L (v :: S))) := by
  subst hq; exact Go.by (fun _ => XS.pop hA hx rfl hd rfl hv) k
theorem g_dupX1 (hA : At T m c below) (hx : p.tables.exec = Jvm.exec) {v w : Value} (hd : decode c.code pc = .ok (.dup_x1, 1)) (hv : v.category = 1) (hw' : w.category = 1) (hq : pc + 1 = q) (k : Go p e below Φ (T.setTop (mkF m q L (v :: w :: v :: S)))) : Go p e below Φ (T.setTop (mkF m pc L (v :: w :: S))) := by
  subst hq; exact Go.by (fun _ => XS.dupX1 hA hx rfl hd rfl hv hw') k
theorem g_dup2 (hA : At T m c below) (hx : p.tables.exec = Jvm.exec) {v w : Value} (hd : decode c.code pc = .ok (.dup2, 1)) (hv : v.category = 1) (hw' : w.category = 1) (hq : pc + 1 = q) (k : Go p e below Φ (T.setTop (mkF m q L (v :: w :: v :: w :: S)))) : Go p e below Φ (T.setTop (mkF m pc L (v :: w :: S))) := by
  subst hq; exact Go.by (fun _ => Jvm.Free.XT.dup2 hA hx rfl hd rfl hv hw') k
theorem g_goto (hA : At T m c below) (hx : p.tables.exec = Jvm.exec) {o : Int} (hd : decode c.code pc = .ok (.goto o, 3)) (ho : 0 ≤ (pc : Int) + o) (hq : ((pc : Int) + o).toNat = q) (k : Go p e below Φ (T.setTop (mkF m q L S))) : Go p e below Φ (T.setTop (mkF m pc L S)) := Go.by (fun _ => XS.goto hA hx rfl rfl hd ho hq) k
theorem g_icmp (hA : At T m c below) (hx : p.tables.exec = Jvm.exec) {cd : ClassFile.Cond} {o : Int} {q0 : Nat} {x y : Int32} (hd : decode c.code pc = .ok (.if_icmp cd o, 3)) (ho : 0 ≤ (pc : Int) + o) (hq : ((pc : Int) + o).toNat = q) (hq0 : pc + 3 = q0) (k1 : if_icmp.holds cd x y = true → Go p e below Φ (T.setTop (mkF m q L S))) (k0 : if_icmp.holds cd x y = false → Go p e below Φ (T.setTop (mkF m q0 L S))) : Go p e below Φ (T.setTop (mkF m pc L (.int y :: .int x :: S))) := by
  subst hq0
  cases hb : if_icmp.holds cd x y
  · exact Go.by (fun _ => XS.icmpNo hA hx rfl hd rfl hb) (k0 hb)
  · exact Go.by (fun _ => XS.icmpYes hA hx rfl rfl hd rfl hb ho hq) (k1 hb)
theorem g_if0 (hA : At T m c below) (hx : p.tables.exec = Jvm.exec) {cd : ClassFile.Cond} {o : Int} {q0 : Nat} {x : Int32} (hd : decode c.code pc = .ok (.ifCond cd o, 3)) (ho : 0 ≤ (pc : Int) + o) (hq : ((pc : Int) + o).toNat = q) (hq0 : pc + 3 = q0) (k1 : if_icmp.holds cd x 0 = true → Go p e below Φ (T.setTop (mkF m q L S))) (k0 : if_icmp.holds cd x 0 = false → Go p e below Φ (T.setTop (mkF m q0 L S))) : Go p e below Φ (T.setTop (mkF m pc L (.int x :: S))) := by
  subst hq0
  cases hb : if_icmp.holds cd x 0
  · exact Go.by (fun _ => XS.ifNo hA hx rfl hd rfl ((if0 _ _).trans hb)) (k0 hb)
  · exact Go.by (fun _ => XS.ifYes hA hx rfl rfl hd rfl ((if0 _ _).trans hb) ho hq) (k1 hb)
theorem rel_eq {x y : Int32} : (if_icmp.holds .eq x y = true → x.toInt = y.toInt) ∧ (if_icmp.holds .eq x y = false → x.toInt ≠ y.toInt) := by
  constructor <;> intro h <;> simp [if_icmp.holds, Int32.lt_iff_toInt_lt, Int32.le_iff_toInt_le, ← Int32.toInt_inj] at h <;> omega
theorem g_icmp_eq (hA : At T m c below) (hx : p.tables.exec = Jvm.exec) {o : Int} {q0 : Nat} {x y : Int32} (hd : decode c.code pc = .ok (.if_icmp .eq o, 3)) (ho : 0 ≤ (pc : Int) + o) (hq : ((pc : Int) + o).toNat = q) (hq0 : pc + 3 = q0) (k1 : x.toInt = y.toInt → Go p e below Φ (T.setTop (mkF m q L S))) (k0 : x.toInt ≠ y.toInt → Go p e below Φ (T.setTop (mkF m q0 L S))) : Go p e below Φ (T.setTop (mkF m pc L (.int y :: .int x :: S))) := g_icmp hA hx hd ho hq hq0 (fun h => k1 (rel_eq.1 h)) (fun h => k0 (rel_eq.2 h))
theorem g_if_eq (hA : At T m c below) (hx : p.tables.exec = Jvm.exec) {o : Int} {q0 : Nat} {x : Int32} (hd : decode c.code pc = .ok (.ifCond .eq o, 3)) (ho : 0 ≤ (pc : Int) + o) (hq : ((pc : Int) + o).toNat = q) (hq0 : pc + 3 = q0) (k1 : x.toInt = 0 → Go p e below Φ (T.setTop (mkF m q L S))) (k0 : x.toInt ≠ 0 → Go p e below Φ (T.setTop (mkF m q0 L S))) : Go p e below Φ (T.setTop (mkF m pc L (.int x :: S))) := g_if0 hA hx hd ho hq hq0 (fun h => k1 (rel_eq.1 h)) (fun h => k0 (rel_eq.2 h))
theorem rell_eq {x y : Int64} : (if_icmp.holds .eq (lcmpW x y) 0 = true → x.toInt = y.toInt) ∧ (if_icmp.holds .eq (lcmpW x y) 0 = false → x.toInt ≠ y.toInt) := by
  have q := c_lcmp x y
  constructor <;> intro h
  · have h' := (rel_eq (x := lcmpW x y) (y := 0)).1 h; rw [show (0 : Int32).toInt = 0 from rfl] at h'; generalize lcmpW x y = w at *; omega
  · have h' := (rel_eq (x := lcmpW x y) (y := 0)).2 h; rw [show (0 : Int32).toInt = 0 from rfl] at h'; generalize lcmpW x y = w at *; omega
theorem g_lcmp_eq (hA : At T m c below) (hx : p.tables.exec = Jvm.exec) {o : Int} {q1 q0 : Nat} {x y : Int64} (hd : decode c.code pc = .ok (.lcmp, 1)) (hq1 : pc + 1 = q1) (hd' : decode c.code q1 = .ok (.ifCond .eq o, 3)) (ho : 0 ≤ (q1 : Int) + o) (hq : ((q1 : Int) + o).toNat = q) (hq0 : q1 + 3 = q0) (k1 : x.toInt = y.toInt → Go p e below Φ (T.setTop (mkF m q L S))) (k0 : x.toInt ≠ y.toInt → Go p e below Φ (T.setTop (mkF m q0 L S))) : Go p e below Φ (T.setTop (mkF m pc L (.long y :: .long x :: S))) := g_lcmp hA hx hd hq1 (g_if0 hA hx hd' ho hq hq0 (fun h => k1 (rell_eq.1 h)) (fun h => k0 (rell_eq.2 h)))
theorem rel_ne {x y : Int32} : (if_icmp.holds .ne x y = true → x.toInt ≠ y.toInt) ∧ (if_icmp.holds .ne x y = false → x.toInt = y.toInt) := by
  constructor <;> intro h <;> simp [if_icmp.holds, Int32.lt_iff_toInt_lt, Int32.le_iff_toInt_le, ← Int32.toInt_inj] at h <;> omega
theorem g_icmp_ne (hA : At T m c below) (hx : p.tables.exec = Jvm.exec) {o : Int} {q0 : Nat} {x y : Int32} (hd : decode c.code pc = .ok (.if_icmp .ne o, 3)) (ho : 0 ≤ (pc : Int) + o) (hq : ((pc : Int) + o).toNat = q) (hq0 : pc + 3 = q0) (k1 : x.toInt ≠ y.toInt → Go p e below Φ (T.setTop (mkF m q L S))) (k0 : x.toInt = y.toInt → Go p e below Φ (T.setTop (mkF m q0 L S))) : Go p e below Φ (T.setTop (mkF m pc L (.int y :: .int x :: S))) := g_icmp hA hx hd ho hq hq0 (fun h => k1 (rel_ne.1 h)) (fun h => k0 (rel_ne.2 h))
theorem g_if_ne (hA : At T m c below) (hx : p.tables.exec = Jvm.exec) {o : Int} {q0 : Nat} {x : Int32} (hd : decode c.code pc = .ok (.ifCond .ne o, 3)) (ho : 0 ≤ (pc : Int) + o) (hq : ((pc : Int) + o).toNat = q) (hq0 : pc + 3 = q0) (k1 : x.toInt ≠ 0 → Go p e below Φ (T.setTop (mkF m q L S))) (k0 : x.toInt = 0 → Go p e below Φ (T.setTop (mkF m q0 L S))) : Go p e below Φ (T.setTop (mkF m pc L (.int x :: S))) := g_if0 hA hx hd ho hq hq0 (fun h => k1 (rel_ne.1 h)) (fun h => k0 (rel_ne.2 h))
theorem rell_ne {x y : Int64} : (if_icmp.holds .ne (lcmpW x y) 0 = true → x.toInt ≠ y.toInt) ∧ (if_icmp.holds .ne (lcmpW x y) 0 = false → x.toInt = y.toInt) := by
  have q := c_lcmp x y
  constructor <;> intro h
  · have h' := (rel_ne (x := lcmpW x y) (y := 0)).1 h; rw [show (0 : Int32).toInt = 0 from rfl] at h'; generalize lcmpW x y = w at *; omega
  · have h' := (rel_ne (x := lcmpW x y) (y := 0)).2 h; rw [show (0 : Int32).toInt = 0 from rfl] at h'; generalize lcmpW x y = w at *; omega
theorem g_lcmp_ne (hA : At T m c below) (hx : p.tables.exec = Jvm.exec) {o : Int} {q1 q0 : Nat} {x y : Int64} (hd : decode c.code pc = .ok (.lcmp, 1)) (hq1 : pc + 1 = q1) (hd' : decode c.code q1 = .ok (.ifCond .ne o, 3)) (ho : 0 ≤ (q1 : Int) + o) (hq : ((q1 : Int) + o).toNat = q) (hq0 : q1 + 3 = q0) (k1 : x.toInt ≠ y.toInt → Go p e below Φ (T.setTop (mkF m q L S))) (k0 : x.toInt = y.toInt → Go p e below Φ (T.setTop (mkF m q0 L S))) : Go p e below Φ (T.setTop (mkF m pc L (.long y :: .long x :: S))) := g_lcmp hA hx hd hq1 (g_if0 hA hx hd' ho hq hq0 (fun h => k1 (rell_ne.1 h)) (fun h => k0 (rell_ne.2 h)))
theorem rel_lt {x y : Int32} : (if_icmp.holds .lt x y = true → x.toInt < y.toInt) ∧ (if_icmp.holds .lt x y = false → y.toInt ≤ x.toInt) := by
  constructor <;> intro h <;> simp [if_icmp.holds, Int32.lt_iff_toInt_lt, Int32.le_iff_toInt_le, ← Int32.toInt_inj] at h <;> omega
theorem g_icmp_lt (hA : At T m c below) (hx : p.tables.exec = Jvm.exec) {o : Int} {q0 : Nat} {x y : Int32} (hd : decode c.code pc = .ok (.if_icmp .lt o, 3)) (ho : 0 ≤ (pc : Int) + o) (hq : ((pc : Int) + o).toNat = q) (hq0 : pc + 3 = q0) (k1 : x.toInt < y.toInt → Go p e below Φ (T.setTop (mkF m q L S))) (k0 : y.toInt ≤ x.toInt → Go p e below Φ (T.setTop (mkF m q0 L S))) : Go p e below Φ (T.setTop (mkF m pc L (.int y :: .int x :: S))) := g_icmp hA hx hd ho hq hq0 (fun h => k1 (rel_lt.1 h)) (fun h => k0 (rel_lt.2 h))
theorem g_if_lt (hA : At T m c below) (hx : p.tables.exec = Jvm.exec) {o : Int} {q0 : Nat} {x : Int32} (hd : decode c.code pc = .ok (.ifCond .lt o, 3)) (ho : 0 ≤ (pc : Int) + o) (hq : ((pc : Int) + o).toNat = q) (hq0 : pc + 3 = q0) (k1 : x.toInt < 0 → Go p e below Φ (T.setTop (mkF m q L S))) (k0 : 0 ≤ x.toInt → Go p e below Φ (T.setTop (mkF m q0 L S))) : Go p e below Φ (T.setTop (mkF m pc L (.int x :: S))) := g_if0 hA hx hd ho hq hq0 (fun h => k1 (rel_lt.1 h)) (fun h => k0 (rel_lt.2 h))
theorem rell_lt {x y : Int64} : (if_icmp.holds .lt (lcmpW x y) 0 = true → x.toInt < y.toInt) ∧ (if_icmp.holds .lt (lcmpW x y) 0 = false → y.toInt ≤ x.toInt) := by
  have q := c_lcmp x y
  constructor <;> intro h
  · have h' := (rel_lt (x := lcmpW x y) (y := 0)).1 h; rw [show (0 : Int32).toInt = 0 from rfl] at h'; generalize lcmpW x y = w at *; omega
  · have h' := (rel_lt (x := lcmpW x y) (y := 0)).2 h; rw [show (0 : Int32).toInt = 0 from rfl] at h'; generalize lcmpW x y = w at *; omega
theorem g_lcmp_lt (hA : At T m c below) (hx : p.tables.exec = Jvm.exec) {o : Int} {q1 q0 : Nat} {x y : Int64} (hd : decode c.code pc = .ok (.lcmp, 1)) (hq1 : pc + 1 = q1) (hd' : decode c.code q1 = .ok (.ifCond .lt o, 3)) (ho : 0 ≤ (q1 : Int) + o) (hq : ((q1 : Int) + o).toNat = q) (hq0 : q1 + 3 = q0) (k1 : x.toInt < y.toInt → Go p e below Φ (T.setTop (mkF m q L S))) (k0 : y.toInt ≤ x.toInt → Go p e below Φ (T.setTop (mkF m q0 L S))) : Go p e below Φ (T.setTop (mkF m pc L (.long y :: .long x :: S))) := g_lcmp hA hx hd hq1 (g_if0 hA hx hd' ho hq hq0 (fun h => k1 (rell_lt.1 h)) (fun h => k0 (rell_lt.2 h)))
theorem rel_ge {x y : Int32} : (if_icmp.holds .ge x y = true → y.toInt ≤ x.toInt) ∧ (if_icmp.holds .ge x y = false → x.toInt < y.toInt) := by
  constructor <;> intro h <;> simp [if_icmp.holds, Int32.lt_iff_toInt_lt, Int32.le_iff_toInt_le, ← Int32.toInt_inj] at h <;> omega
theorem g_icmp_ge (hA : At T m c below) (hx : p.tables.exec = Jvm.exec) {o : Int} {q0 : Nat} {x y : Int32} (hd : decode c.code pc = .ok (.if_icmp .ge o, 3)) (ho : 0 ≤ (pc : Int) + o) (hq : ((pc : Int) + o).toNat = q) (hq0 : pc + 3 = q0) (k1 : y.toInt ≤ x.toInt → Go p e below Φ (T.setTop (mkF m q L S))) (k0 : x.toInt < y.toInt → Go p e below Φ (T.setTop (mkF m q0 L S))) : Go p e below Φ (T.setTop (mkF m pc L (.int y :: .int x :: S))) := g_icmp hA hx hd ho hq hq0 (fun h => k1 (rel_ge.1 h)) (fun h => k0 (rel_ge.2 h))
theorem g_if_ge (hA : At T m c below) (hx : p.tables.exec = Jvm.exec) {o : Int} {q0 : Nat} {x : Int32} (hd : decode c.code pc = .ok (.ifCond .ge o, 3)) (ho : 0 ≤ (pc : Int) + o) (hq : ((pc : Int) + o).toNat = q) (hq0 : pc + 3 = q0) (k1 : 0 ≤ x.toInt → Go p e below Φ (T.setTop (mkF m q L S))) (k0 : x.toInt < 0 → Go p e below Φ (T.setTop (mkF m q0 L S))) : Go p e below Φ (T.setTop (mkF m pc L (.int x :: S))) := g_if0 hA hx hd ho hq hq0 (fun h => k1 (rel_ge.1 h)) (fun h => k0 (rel_ge.2 h))
theorem rell_ge {x y : Int64} : (if_icmp.holds .ge (lcmpW x y) 0 = true → y.toInt ≤ x.toInt) ∧ (if_icmp.holds .ge (lcmpW x y) 0 = false → x.toInt < y.toInt) := by
  have q := c_lcmp x y
  constructor <;> intro h
  · have h' := (rel_ge (x := lcmpW x y) (y := 0)).1 h; rw [show (0 : Int32).toInt = 0 from rfl] at h'; generalize lcmpW x y = w at *; omega
  · have h' := (rel_ge (x := lcmpW x y) (y := 0)).2 h; rw [show (0 : Int32).toInt = 0 from rfl] at h'; generalize lcmpW x y = w at *; omega
theorem g_lcmp_ge (hA : At T m c below) (hx : p.tables.exec = Jvm.exec) {o : Int} {q1 q0 : Nat} {x y : Int64} (hd : decode c.code pc = .ok (.lcmp, 1)) (hq1 : pc + 1 = q1) (hd' : decode c.code q1 = .ok (.ifCond .ge o, 3)) (ho : 0 ≤ (q1 : Int) + o) (hq : ((q1 : Int) + o).toNat = q) (hq0 : q1 + 3 = q0) (k1 : y.toInt ≤ x.toInt → Go p e below Φ (T.setTop (mkF m q L S))) (k0 : x.toInt < y.toInt → Go p e below Φ (T.setTop (mkF m q0 L S))) : Go p e below Φ (T.setTop (mkF m pc L (.long y :: .long x :: S))) := g_lcmp hA hx hd hq1 (g_if0 hA hx hd' ho hq hq0 (fun h => k1 (rell_ge.1 h)) (fun h => k0 (rell_ge.2 h)))
theorem rel_gt {x y : Int32} : (if_icmp.holds .gt x y = true → y.toInt < x.toInt) ∧ (if_icmp.holds .gt x y = false → x.toInt ≤ y.toInt) := by
  constructor <;> intro h <;> simp [if_icmp.holds, Int32.lt_iff_toInt_lt, Int32.le_iff_toInt_le, ← Int32.toInt_inj] at h <;> omega
theorem g_icmp_gt (hA : At T m c below) (hx : p.tables.exec = Jvm.exec) {o : Int} {q0 : Nat} {x y : Int32} (hd : decode c.code pc = .ok (.if_icmp .gt o, 3)) (ho : 0 ≤ (pc : Int) + o) (hq : ((pc : Int) + o).toNat = q) (hq0 : pc + 3 = q0) (k1 : y.toInt < x.toInt → Go p e below Φ (T.setTop (mkF m q L S))) (k0 : x.toInt ≤ y.toInt → Go p e below Φ (T.setTop (mkF m q0 L S))) : Go p e below Φ (T.setTop (mkF m pc L (.int y :: .int x :: S))) := g_icmp hA hx hd ho hq hq0 (fun h => k1 (rel_gt.1 h)) (fun h => k0 (rel_gt.2 h))
theorem g_if_gt (hA : At T m c below) (hx : p.tables.exec = Jvm.exec) {o : Int} {q0 : Nat} {x : Int32} (hd : decode c.code pc = .ok (.ifCond .gt o, 3)) (ho : 0 ≤ (pc : Int) + o) (hq : ((pc : Int) + o).toNat = q) (hq0 : pc + 3 = q0) (k1 : 0 < x.toInt → Go p e below Φ (T.setTop (mkF m q L S))) (k0 : x.toInt ≤ 0 → Go p e below Φ (T.setTop (mkF m q0 L S))) : Go p e below Φ (T.setTop (mkF m pc L (.int x :: S))) := g_if0 hA hx hd ho hq hq0 (fun h => k1 (rel_gt.1 h)) (fun h => k0 (rel_gt.2 h))
theorem rell_gt {x y : Int64} : (if_icmp.holds .gt (lcmpW x y) 0 = true → y.toInt < x.toInt) ∧ (if_icmp.holds .gt (lcmpW x y) 0 = false → x.toInt ≤ y.toInt) := by
  have q := c_lcmp x y
  constructor <;> intro h
  · have h' := (rel_gt (x := lcmpW x y) (y := 0)).1 h; rw [show (0 : Int32).toInt = 0 from rfl] at h'; generalize lcmpW x y = w at *; omega
  · have h' := (rel_gt (x := lcmpW x y) (y := 0)).2 h; rw [show (0 : Int32).toInt = 0 from rfl] at h'; generalize lcmpW x y = w at *; omega
theorem g_lcmp_gt (hA : At T m c below) (hx : p.tables.exec = Jvm.exec) {o : Int} {q1 q0 : Nat} {x y : Int64} (hd : decode c.code pc = .ok (.lcmp, 1)) (hq1 : pc + 1 = q1) (hd' : decode c.code q1 = .ok (.ifCond .gt o, 3)) (ho : 0 ≤ (q1 : Int) + o) (hq : ((q1 : Int) + o).toNat = q) (hq0 : q1 + 3 = q0) (k1 : y.toInt < x.toInt → Go p e below Φ (T.setTop (mkF m q L S))) (k0 : x.toInt ≤ y.toInt → Go p e below Φ (T.setTop (mkF m q0 L S))) : Go p e below Φ (T.setTop (mkF m pc L (.long y :: .long x :: S))) := g_lcmp hA hx hd hq1 (g_if0 hA hx hd' ho hq hq0 (fun h => k1 (rell_gt.1 h)) (fun h => k0 (rell_gt.2 h)))
theorem rel_le {x y : Int32} : (if_icmp.holds .le x y = true → x.toInt ≤ y.toInt) ∧ (if_icmp.holds .le x y = false → y.toInt < x.toInt) := by
  constructor <;> intro h <;> simp [if_icmp.holds, Int32.lt_iff_toInt_lt, Int32.le_iff_toInt_le, ← Int32.toInt_inj] at h <;> omega
theorem g_icmp_le (hA : At T m c below) (hx : p.tables.exec = Jvm.exec) {o : Int} {q0 : Nat} {x y : Int32} (hd : decode c.code pc = .ok (.if_icmp .le o, 3)) (ho : 0 ≤ (pc : Int) + o) (hq : ((pc : Int) + o).toNat = q) (hq0 : pc + 3 = q0) (k1 : x.toInt ≤ y.toInt → Go p e below Φ (T.setTop (mkF m q L S))) (k0 : y.toInt < x.toInt → Go p e below Φ (T.setTop (mkF m q0 L S))) : Go p e below Φ (T.setTop (mkF m pc L (.int y :: .int x :: S))) := g_icmp hA hx hd ho hq hq0 (fun h => k1 (rel_le.1 h)) (fun h => k0 (rel_le.2 h))
theorem g_if_le (hA : At T m c below) (hx : p.tables.exec = Jvm.exec) {o : Int} {q0 : Nat} {x : Int32} (hd : decode c.code pc = .ok (.ifCond .le o, 3)) (ho : 0 ≤ (pc : Int) + o) (hq : ((pc : Int) + o).toNat = q) (hq0 : pc + 3 = q0) (k1 : x.toInt ≤ 0 → Go p e below Φ (T.setTop (mkF m q L S))) (k0 : 0 < x.toInt → Go p e below Φ (T.setTop (mkF m q0 L S))) : Go p e below Φ (T.setTop (mkF m pc L (.int x :: S))) := g_if0 hA hx hd ho hq hq0 (fun h => k1 (rel_le.1 h)) (fun h => k0 (rel_le.2 h))
theorem rell_le {x y : Int64} : (if_icmp.holds .le (lcmpW x y) 0 = true → x.toInt ≤ y.toInt) ∧ (if_icmp.holds .le (lcmpW x y) 0 = false → y.toInt < x.toInt) := by
  have q := c_lcmp x y
  constructor <;> intro h
  · have h' := (rel_le (x := lcmpW x y) (y := 0)).1 h; rw [show (0 : Int32).toInt = 0 from rfl] at h'; generalize lcmpW x y = w at *; omega
  · have h' := (rel_le (x := lcmpW x y) (y := 0)).2 h; rw [show (0 : Int32).toInt = 0 from rfl] at h'; generalize lcmpW x y = w at *; omega
theorem g_lcmp_le (hA : At T m c below) (hx : p.tables.exec = Jvm.exec) {o : Int} {q1 q0 : Nat} {x y : Int64} (hd : decode c.code pc = .ok (.lcmp, 1)) (hq1 : pc + 1 = q1) (hd' : decode c.code q1 = .ok (.ifCond .le o, 3)) (ho : 0 ≤ (q1 : Int) + o) (hq : ((q1 : Int) + o).toNat = q) (hq0 : q1 + 3 = q0) (k1 : x.toInt ≤ y.toInt → Go p e below Φ (T.setTop (mkF m q L S))) (k0 : y.toInt < x.toInt → Go p e below Φ (T.setTop (mkF m q0 L S))) : Go p e below Φ (T.setTop (mkF m pc L (.long y :: .long x :: S))) := g_lcmp hA hx hd hq1 (g_if0 hA hx hd' ho hq hq0 (fun h => k1 (rell_le.1 h)) (fun h => k0 (rell_le.2 h)))
theorem g_ifB_ne (hA : At T m c below) (hx : p.tables.exec = Jvm.exec) {o : Int} {q0 : Nat} {b : Bool} (hd : decode c.code pc = .ok (.ifCond .ne o, 3)) (ho : 0 ≤ (pc : Int) + o) (hq : ((pc : Int) + o).toNat = q) (hq0 : pc + 3 = q0) (k1 : b = true → Go p e below Φ (T.setTop (mkF m q L S))) (k0 : b = false → Go p e below Φ (T.setTop (mkF m q0 L S))) : Go p e below Φ (T.setTop (mkF m pc L (.int (b2i b) :: S))) := g_if0 hA hx hd ho hq hq0 (fun h => k1 (by cases b <;> first | rfl | exact Bool.noConfusion h)) (fun h => k0 (by cases b <;> first | rfl | exact Bool.noConfusion h))
theorem g_ifB_eq (hA : At T m c below) (hx : p.tables.exec = Jvm.exec) {o : Int} {q0 : Nat} {b : Bool} (hd : decode c.code pc = .ok (.ifCond .eq o, 3)) (ho : 0 ≤ (pc : Int) + o) (hq : ((pc : Int) + o).toNat = q) (hq0 : pc + 3 = q0) (k1 : b = false → Go p e below Φ (T.setTop (mkF m q L S))) (k0 : b = true → Go p e below Φ (T.setTop (mkF m q0 L S))) : Go p e below Φ (T.setTop (mkF m pc L (.int (b2i b) :: S))) := g_if0 hA hx hd ho hq hq0 (fun h => k1 (by cases b <;> first | rfl | exact Bool.noConfusion h)) (fun h => k0 (by cases b <;> first | rfl | exact Bool.noConfusion h))
theorem g_sel_icmp_eq (hA : At T m c below) (hx : p.tables.exec = Jvm.exec) {o o' : Int} {z t t' : Nat} {x y : Int32} (hd : decode c.code pc = .ok (.if_icmp .eq o, 3)) (ho : 0 ≤ (pc : Int) + o) (hz' : ((pc : Int) + o).toNat = z) (ht0 : pc + 3 = t) (hz : decode c.code z = .ok (.iconst 0, 1)) (ht : decode c.code t = .ok (.iconst 1, 1)) (hg : decode c.code t' = .ok (.goto o', 3)) (ht' : t + 1 = t') (hog : 0 ≤ (t' : Int) + o') (hj : ((t' : Int) + o').toNat = q) (hj' : z + 1 = q) (k : Go p e below Φ (T.setTop (mkF m q L (.int (b2i (decide (x.toInt ≠ y.toInt))) :: S)))) : Go p e below Φ (T.setTop (mkF m pc L (.int y :: .int x :: S))) :=
  g_icmp_eq hA hx hd ho hz' ht0 (fun h => g_iconst hA hx hz rfl hj' (by rw [show decide (x.toInt ≠ y.toInt) = false from decide_eq_false (by omega)] at k; exact k)) (fun h => g_iconst hA hx ht rfl ht' (g_goto hA hx hg hog hj (by rw [show decide (x.toInt ≠ y.toInt) = true from decide_eq_true (by omega)] at k; exact k)))
theorem g_sel_icmp_ne (hA : At T m c below) (hx : p.tables.exec = Jvm.exec) {o o' : Int} {z t t' : Nat} {x y : Int32} (hd : decode c.code pc = .ok (.if_icmp .ne o, 3)) (ho : 0 ≤ (pc : Int) + o) (hz' : ((pc : Int) + o).toNat = z) (ht0 : pc + 3 = t) (hz : decode c.code z = .ok (.iconst 0, 1)) (ht : decode c.code t = .ok (.iconst 1, 1)) (hg : decode c.code t' = .ok (.goto o', 3)) (ht' : t + 1 = t') (hog : 0 ≤ (t' : Int) + o') (hj : ((t' : Int) + o').toNat = q) (hj' : z + 1 = q) (k : Go p e below Φ (T.setTop (mkF m q L (.int (b2i (decide (x.toInt = y.toInt))) :: S)))) : Go p e below Φ (T.setTop (mkF m pc L (.int y :: .int x :: S))) :=
  g_icmp_ne hA hx hd ho hz' ht0 (fun h => g_iconst hA hx hz rfl hj' (by rw [show decide (x.toInt = y.toInt) = false from decide_eq_false (by omega)] at k; exact k)) (fun h => g_iconst hA hx ht rfl ht' (g_goto hA hx hg hog hj (by rw [show decide (x.toInt = y.toInt) = true from decide_eq_true (by omega)] at k; exact k)))
theorem g_sel_icmp_lt (hA : At T m c below) (hx : p.tables.exec = Jvm.exec) {o o' : Int} {z t t' : Nat} {x y : Int32} (hd : decode c.code pc = .ok (.if_icmp .lt o, 3)) (ho : 0 ≤ (pc : Int) + o) (hz' : ((pc : Int) + o).toNat = z) (ht0 : pc + 3 = t) (hz : decode c.code z = .ok (.iconst 0, 1)) (ht : decode c.code t = .ok (.iconst 1, 1)) (hg : decode c.code t' = .ok (.goto o', 3)) (ht' : t + 1 = t') (hog : 0 ≤ (t' : Int) + o') (hj : ((t' : Int) + o').toNat = q) (hj' : z + 1 = q) (k : Go p e below Φ (T.setTop (mkF m q L (.int (b2i (decide (y.toInt ≤ x.toInt))) :: S)))) : Go p e below Φ (T.setTop (mkF m pc L (.int y :: .int x :: S))) :=
  g_icmp_lt hA hx hd ho hz' ht0 (fun h => g_iconst hA hx hz rfl hj' (by rw [show decide (y.toInt ≤ x.toInt) = false from decide_eq_false (by omega)] at k; exact k)) (fun h => g_iconst hA hx ht rfl ht' (g_goto hA hx hg hog hj (by rw [show decide (y.toInt ≤ x.toInt) = true from decide_eq_true (by omega)] at k; exact k)))
theorem g_sel_icmp_ge (hA : At T m c below) (hx : p.tables.exec = Jvm.exec) {o o' : Int} {z t t' : Nat} {x y : Int32} (hd : decode c.code pc = .ok (.if_icmp .ge o, 3)) (ho : 0 ≤ (pc : Int) + o) (hz' : ((pc : Int) + o).toNat = z) (ht0 : pc + 3 = t) (hz : decode c.code z = .ok (.iconst 0, 1)) (ht : decode c.code t = .ok (.iconst 1, 1)) (hg : decode c.code t' = .ok (.goto o', 3)) (ht' : t + 1 = t') (hog : 0 ≤ (t' : Int) + o') (hj : ((t' : Int) + o').toNat = q) (hj' : z + 1 = q) (k : Go p e below Φ (T.setTop (mkF m q L (.int (b2i (decide (x.toInt < y.toInt))) :: S)))) : Go p e below Φ (T.setTop (mkF m pc L (.int y :: .int x :: S))) :=
  g_icmp_ge hA hx hd ho hz' ht0 (fun h => g_iconst hA hx hz rfl hj' (by rw [show decide (x.toInt < y.toInt) = false from decide_eq_false (by omega)] at k; exact k)) (fun h => g_iconst hA hx ht rfl ht' (g_goto hA hx hg hog hj (by rw [show decide (x.toInt < y.toInt) = true from decide_eq_true (by omega)] at k; exact k)))
theorem g_sel_icmp_gt (hA : At T m c below) (hx : p.tables.exec = Jvm.exec) {o o' : Int} {z t t' : Nat} {x y : Int32} (hd : decode c.code pc = .ok (.if_icmp .gt o, 3)) (ho : 0 ≤ (pc : Int) + o) (hz' : ((pc : Int) + o).toNat = z) (ht0 : pc + 3 = t) (hz : decode c.code z = .ok (.iconst 0, 1)) (ht : decode c.code t = .ok (.iconst 1, 1)) (hg : decode c.code t' = .ok (.goto o', 3)) (ht' : t + 1 = t') (hog : 0 ≤ (t' : Int) + o') (hj : ((t' : Int) + o').toNat = q) (hj' : z + 1 = q) (k : Go p e below Φ (T.setTop (mkF m q L (.int (b2i (decide (x.toInt ≤ y.toInt))) :: S)))) : Go p e below Φ (T.setTop (mkF m pc L (.int y :: .int x :: S))) :=
  g_icmp_gt hA hx hd ho hz' ht0 (fun h => g_iconst hA hx hz rfl hj' (by rw [show decide (x.toInt ≤ y.toInt) = false from decide_eq_false (by omega)] at k; exact k)) (fun h => g_iconst hA hx ht rfl ht' (g_goto hA hx hg hog hj (by rw [show decide (x.toInt ≤ y.toInt) = true from decide_eq_true (by omega)] at k; exact k)))
theorem g_sel_icmp_le (hA : At T m c below) (hx : p.tables.exec = Jvm.exec) {o o' : Int} {z t t' : Nat} {x y : Int32} (hd : decode c.code pc = .ok (.if_icmp .le o, 3)) (ho : 0 ≤ (pc : Int) + o) (hz' : ((pc : Int) + o).toNat = z) (ht0 : pc + 3 = t) (hz : decode c.code z = .ok (.iconst 0, 1)) (ht : decode c.code t = .ok (.iconst 1, 1)) (hg : decode c.code t' = .ok (.goto o', 3)) (ht' : t + 1 = t') (hog : 0 ≤ (t' : Int) + o') (hj : ((t' : Int) + o').toNat = q) (hj' : z + 1 = q) (k : Go p e below Φ (T.setTop (mkF m q L (.int (b2i (decide (y.toInt < x.toInt))) :: S)))) : Go p e below Φ (T.setTop (mkF m pc L (.int y :: .int x :: S))) :=
  g_icmp_le hA hx hd ho hz' ht0 (fun h => g_iconst hA hx hz rfl hj' (by rw [show decide (y.toInt < x.toInt) = false from decide_eq_false (by omega)] at k; exact k)) (fun h => g_iconst hA hx ht rfl ht' (g_goto hA hx hg hog hj (by rw [show decide (y.toInt < x.toInt) = true from decide_eq_true (by omega)] at k; exact k)))
theorem g_sel_if_eq (hA : At T m c below) (hx : p.tables.exec = Jvm.exec) {o o' : Int} {z t t' : Nat} {x : Int32} (hd : decode c.code pc = .ok (.ifCond .eq o, 3)) (ho : 0 ≤ (pc : Int) + o) (hz' : ((pc : Int) + o).toNat = z) (ht0 : pc + 3 = t) (hz : decode c.code z = .ok (.iconst 0, 1)) (ht : decode c.code t = .ok (.iconst 1, 1)) (hg : decode c.code t' = .ok (.goto o', 3)) (ht' : t + 1 = t') (hog : 0 ≤ (t' : Int) + o') (hj : ((t' : Int) + o').toNat = q) (hj' : z + 1 = q) (k : Go p e below Φ (T.setTop (mkF m q L (.int (b2i (decide (x.toInt ≠ 0))) :: S)))) : Go p e below Φ (T.setTop (mkF m pc L (.int x :: S))) :=
  g_if_eq hA hx hd ho hz' ht0 (fun h => g_iconst hA hx hz rfl hj' (by rw [show decide (x.toInt ≠ 0) = false from decide_eq_false (by omega)] at k; exact k)) (fun h => g_iconst hA hx ht rfl ht' (g_goto hA hx hg hog hj (by rw [show decide (x.toInt ≠ 0) = true from decide_eq_true (by omega)] at k; exact k)))
theorem g_sel_if_ne (hA : At T m c below) (hx : p.tables.exec = Jvm.exec) {o o' : Int} {z t t' : Nat} {x : Int32} (hd : decode c.code pc = .ok (.ifCond .ne o, 3)) (ho : 0 ≤ (pc : Int) + o) (hz' : ((pc : Int) + o).toNat = z) (ht0 : pc + 3 = t) (hz : decode c.code z = .ok (.iconst 0, 1)) (ht : decode c.code t = .ok (.iconst 1, 1)) (hg : decode c.code t' = .ok (.goto o', 3)) (ht' : t + 1 = t') (hog : 0 ≤ (t' : Int) + o') (hj : ((t' : Int) + o').toNat = q) (hj' : z + 1 = q) (k : Go p e below Φ (T.setTop (mkF m q L (.int (b2i (decide (x.toInt = 0))) :: S)))) : Go p e below Φ (T.setTop (mkF m pc L (.int x :: S))) :=
  g_if_ne hA hx hd ho hz' ht0 (fun h => g_iconst hA hx hz rfl hj' (by rw [show decide (x.toInt = 0) = false from decide_eq_false (by omega)] at k; exact k)) (fun h => g_iconst hA hx ht rfl ht' (g_goto hA hx hg hog hj (by rw [show decide (x.toInt = 0) = true from decide_eq_true (by omega)] at k; exact k)))
theorem g_sel_if_lt (hA : At T m c below) (hx : p.tables.exec = Jvm.exec) {o o' : Int} {z t t' : Nat} {x : Int32} (hd : decode c.code pc = .ok (.ifCond .lt o, 3)) (ho : 0 ≤ (pc : Int) + o) (hz' : ((pc : Int) + o).toNat = z) (ht0 : pc + 3 = t) (hz : decode c.code z = .ok (.iconst 0, 1)) (ht : decode c.code t = .ok (.iconst 1, 1)) (hg : decode c.code t' = .ok (.goto o', 3)) (ht' : t + 1 = t') (hog : 0 ≤ (t' : Int) + o') (hj : ((t' : Int) + o').toNat = q) (hj' : z + 1 = q) (k : Go p e below Φ (T.setTop (mkF m q L (.int (b2i (decide (0 ≤ x.toInt))) :: S)))) : Go p e below Φ (T.setTop (mkF m pc L (.int x :: S))) :=
  g_if_lt hA hx hd ho hz' ht0 (fun h => g_iconst hA hx hz rfl hj' (by rw [show decide (0 ≤ x.toInt) = false from decide_eq_false (by omega)] at k; exact k)) (fun h => g_iconst hA hx ht rfl ht' (g_goto hA hx hg hog hj (by rw [show decide (0 ≤ x.toInt) = true from decide_eq_true (by omega)] at k; exact k)))
theorem g_sel_if_ge (hA : At T m c below) (hx : p.tables.exec = Jvm.exec) {o o' : Int} {z t t' : Nat} {x : Int32} (hd : decode c.code pc = .ok (.ifCond .ge o, 3)) (ho : 0 ≤ (pc : Int) + o) (hz' : ((pc : Int) + o).toNat = z) (ht0 : pc + 3 = t) (hz : decode c.code z = .ok (.iconst 0, 1)) (ht : decode c.code t = .ok (.iconst 1, 1)) (hg : decode c.code t' = .ok (.goto o', 3)) (ht' : t + 1 = t') (hog : 0 ≤ (t' : Int) + o') (hj : ((t' : Int) + o').toNat = q) (hj' : z + 1 = q) (k : Go p e below Φ (T.setTop (mkF m q L (.int (b2i (decide (x.toInt < 0))) :: S)))) : Go p e below Φ (T.setTop (mkF m pc L (.int x :: S))) :=
  g_if_ge hA hx hd ho hz' ht0 (fun h => g_iconst hA hx hz rfl hj' (by rw [show decide (x.toInt < 0) = false from decide_eq_false (by omega)] at k; exact k)) (fun h => g_iconst hA hx ht rfl ht' (g_goto hA hx hg hog hj (by rw [show decide (x.toInt < 0) = true from decide_eq_true (by omega)] at k; exact k)))
theorem g_sel_if_gt (hA : At T m c below) (hx : p.tables.exec = Jvm.exec) {o o' : Int} {z t t' : Nat} {x : Int32} (hd : decode c.code pc = .ok (.ifCond .gt o, 3)) (ho : 0 ≤ (pc : Int) + o) (hz' : ((pc : Int) + o).toNat = z) (ht0 : pc + 3 = t) (hz : decode c.code z = .ok (.iconst 0, 1)) (ht : decode c.code t = .ok (.iconst 1, 1)) (hg : decode c.code t' = .ok (.goto o', 3)) (ht' : t + 1 = t') (hog : 0 ≤ (t' : Int) + o') (hj : ((t' : Int) + o').toNat = q) (hj' : z + 1 = q) (k : Go p e below Φ (T.setTop (mkF m q L (.int (b2i (decide (x.toInt ≤ 0))) :: S)))) : Go p e below Φ (T.setTop (mkF m pc L (.int x :: S))) :=
  g_if_gt hA hx hd ho hz' ht0 (fun h => g_iconst hA hx hz rfl hj' (by rw [show decide (x.toInt ≤ 0) = false from decide_eq_false (by omega)] at k; exact k)) (fun h => g_iconst hA hx ht rfl ht' (g_goto hA hx hg hog hj (by rw [show decide (x.toInt ≤ 0) = true from decide_eq_true (by omega)] at k; exact k)))
theorem g_sel_if_le (hA : At T m c below) (hx : p.tables.exec = Jvm.exec) {o o' : Int} {z t t' : Nat} {x : Int32} (hd : decode c.code pc = .ok (.ifCond .le o, 3)) (ho : 0 ≤ (pc : Int) + o) (hz' : ((pc : Int) + o).toNat = z) (ht0 : pc + 3 = t) (hz : decode c.code z = .ok (.iconst 0, 1)) (ht : decode c.code t = .ok (.iconst 1, 1)) (hg : decode c.code t' = .ok (.goto o', 3)) (ht' : t + 1 = t') (hog : 0 ≤ (t' : Int) + o') (hj : ((t' : Int) + o').toNat = q) (hj' : z + 1 = q) (k : Go p e below Φ (T.setTop (mkF m q L (.int (b2i (decide (0 < x.toInt))) :: S)))) : Go p e below Φ (T.setTop (mkF m pc L (.int x :: S))) :=
  g_if_le hA hx hd ho hz' ht0 (fun h => g_iconst hA hx hz rfl hj' (by rw [show decide (0 < x.toInt) = false from decide_eq_false (by omega)] at k; exact k)) (fun h => g_iconst hA hx ht rfl ht' (g_goto hA hx hg hog hj (by rw [show decide (0 < x.toInt) = true from decide_eq_true (by omega)] at k; exact k)))
theorem g_sel_lcmp_eq (hA : At T m c below) (hx : p.tables.exec = Jvm.exec) {o o' : Int} {q1 z t t' : Nat} {x y : Int64} (hd : decode c.code pc = .ok (.lcmp, 1)) (hq1 : pc + 1 = q1) (hd' : decode c.code q1 = .ok (.ifCond .eq o, 3)) (ho : 0 ≤ (q1 : Int) + o) (hz' : ((q1 : Int) + o).toNat = z) (ht0 : q1 + 3 = t) (hz : decode c.code z = .ok (.iconst 0, 1)) (ht : decode c.code t = .ok (.iconst 1, 1)) (hg : decode c.code t' = .ok (.goto o', 3)) (ht' : t + 1 = t') (hog : 0 ≤ (t' : Int) + o') (hj : ((t' : Int) + o').toNat = q) (hj' : z + 1 = q) (k : Go p e below Φ (T.setTop (mkF m q L (.int (b2i (decide (x.toInt ≠ y.toInt))) :: S)))) : Go p e below Φ (T.setTop (mkF m pc L (.long y :: .long x :: S))) :=
  g_lcmp_eq hA hx hd hq1 hd' ho hz' ht0 (fun h => g_iconst hA hx hz rfl hj' (by rw [show decide (x.toInt ≠ y.toInt) = false from decide_eq_false (by omega)] at k; exact k)) (fun h => g_iconst hA hx ht rfl ht' (g_goto hA hx hg hog hj (by rw [show decide (x.toInt ≠ y.toInt) = true from decide_eq_true (by omega)] at k; exact k)))
theorem g_sel_lcmp_ne (hA : At T m c below) (hx : p.tables.exec = Jvm.exec) {o o' : Int} {q1 z t t' : Nat} {x y : Int64} (hd : decode c.code pc = .ok (.lcmp, 1)) (hq1 : pc + 1 = q1) (hd' : decode c.code q1 = .ok (.ifCond .ne o, 3)) (ho : 0 ≤ (q1 : Int) + o) (hz' : ((q1 : Int) + o).toNat = z) (ht0 : q1 + 3 = t) (hz : decode c.code z = .ok (.iconst 0, 1)) (ht : decode c.code t = .ok (.iconst 1, 1)) (hg : decode c.code t' = .ok (.goto o', 3)) (ht' : t + 1 = t') (hog : 0 ≤ (t' : Int) + o') (hj : ((t' : Int) + o').toNat = q) (hj' : z + 1 = q) (k : Go p e below Φ (T.setTop (mkF m q L (.int (b2i (decide (x.toInt = y.toInt))) :: S)))) : Go p e below Φ (T.setTop (mkF m pc L (.long y :: .long x :: S))) :=
  g_lcmp_ne hA hx hd hq1 hd' ho hz' ht0 (fun h => g_iconst hA hx hz rfl hj' (by rw [show decide (x.toInt = y.toInt) = false from decide_eq_false (by omega)] at k; exact k)) (fun h => g_iconst hA hx ht rfl ht' (g_goto hA hx hg hog hj (by rw [show decide (x.toInt = y.toInt) = true from decide_eq_true (by omega)] at k; exact k)))
theorem g_sel_lcmp_lt (hA : At T m c below) (hx : p.tables.exec = Jvm.exec) {o o' : Int} {q1 z t t' : Nat} {x y : Int64} (hd : decode c.code pc = .ok (.lcmp, 1)) (hq1 : pc + 1 = q1) (hd' : decode c.code q1 = .ok (.ifCond .lt o, 3)) (ho : 0 ≤ (q1 : Int) + o) (hz' : ((q1 : Int) + o).toNat = z) (ht0 : q1 + 3 = t) (hz : decode c.code z = .ok (.iconst 0, 1)) (ht : decode c.code t = .ok (.iconst 1, 1)) (hg : decode c.code t' = .ok (.goto o', 3)) (ht' : t + 1 = t') (hog : 0 ≤ (t' : Int) + o') (hj : ((t' : Int) + o').toNat = q) (hj' : z + 1 = q) (k : Go p e below Φ (T.setTop (mkF m q L (.int (b2i (decide (y.toInt ≤ x.toInt))) :: S)))) : Go p e below Φ (T.setTop (mkF m pc L (.long y :: .long x :: S))) :=
  g_lcmp_lt hA hx hd hq1 hd' ho hz' ht0 (fun h => g_iconst hA hx hz rfl hj' (by rw [show decide (y.toInt ≤ x.toInt) = false from decide_eq_false (by omega)] at k; exact k)) (fun h => g_iconst hA hx ht rfl ht' (g_goto hA hx hg hog hj (by rw [show decide (y.toInt ≤ x.toInt) = true from decide_eq_true (by omega)] at k; exact k)))
theorem g_sel_lcmp_ge (hA : At T m c below) (hx : p.tables.exec = Jvm.exec) {o o' : Int} {q1 z t t' : Nat} {x y : Int64} (hd : decode c.code pc = .ok (.lcmp, 1)) (hq1 : pc + 1 = q1) (hd' : decode c.code q1 = .ok (.ifCond .ge o, 3)) (ho : 0 ≤ (q1 : Int) + o) (hz' : ((q1 : Int) + o).toNat = z) (ht0 : q1 + 3 = t) (hz : decode c.code z = .ok (.iconst 0, 1)) (ht : decode c.code t = .ok (.iconst 1, 1)) (hg : decode c.code t' = .ok (.goto o', 3)) (ht' : t + 1 = t') (hog : 0 ≤ (t' : Int) + o') (hj : ((t' : Int) + o').toNat = q) (hj' : z + 1 = q) (k : Go p e below Φ (T.setTop (mkF m q L (.int (b2i (decide (x.toInt < y.toInt))) :: S)))) : Go p e below Φ (T.setTop (mkF m pc L (.long y :: .long x :: S))) :=
  g_lcmp_ge hA hx hd hq1 hd' ho hz' ht0 (fun h => g_iconst hA hx hz rfl hj' (by rw [show decide (x.toInt < y.toInt) = false from decide_eq_false (by omega)] at k; exact k)) (fun h => g_iconst hA hx ht rfl ht' (g_goto hA hx hg hog hj (by rw [show decide (x.toInt < y.toInt) = true from decide_eq_true (by omega)] at k; exact k)))
theorem g_sel_lcmp_gt (hA : At T m c below) (hx : p.tables.exec = Jvm.exec) {o o' : Int} {q1 z t t' : Nat} {x y : Int64} (hd : decode c.code pc = .ok (.lcmp, 1)) (hq1 : pc + 1 = q1) (hd' : decode c.code q1 = .ok (.ifCond .gt o, 3)) (ho : 0 ≤ (q1 : Int) + o) (hz' : ((q1 : Int) + o).toNat = z) (ht0 : q1 + 3 = t) (hz : decode c.code z = .ok (.iconst 0, 1)) (ht : decode c.code t = .ok (.iconst 1, 1)) (hg : decode c.code t' = .ok (.goto o', 3)) (ht' : t + 1 = t') (hog : 0 ≤ (t' : Int) + o') (hj : ((t' : Int) + o').toNat = q) (hj' : z + 1 = q) (k : Go p e below Φ (T.setTop (mkF m q L (.int (b2i (decide (x.toInt ≤ y.toInt))) :: S)))) : Go p e below Φ (T.setTop (mkF m pc L (.long y :: .long x :: S))) :=
  g_lcmp_gt hA hx hd hq1 hd' ho hz' ht0 (fun h => g_iconst hA hx hz rfl hj' (by rw [show decide (x.toInt ≤ y.toInt) = false from decide_eq_false (by omega)] at k; exact k)) (fun h => g_iconst hA hx ht rfl ht' (g_goto hA hx hg hog hj (by rw [show decide (x.toInt ≤ y.toInt) = true from decide_eq_true (by omega)] at k; exact k)))
theorem g_sel_lcmp_le (hA : At T m c below) (hx : p.tables.exec = Jvm.exec) {o o' : Int} {q1 z t t' : Nat} {x y : Int64} (hd : decode c.code pc = .ok (.lcmp, 1)) (hq1 : pc + 1 = q1) (hd' : decode c.code q1 = .ok (.ifCond .le o, 3)) (ho : 0 ≤ (q1 : Int) + o) (hz' : ((q1 : Int) + o).toNat = z) (ht0 : q1 + 3 = t) (hz : decode c.code z = .ok (.iconst 0, 1)) (ht : decode c.code t = .ok (.iconst 1, 1)) (hg : decode c.code t' = .ok (.goto o', 3)) (ht' : t + 1 = t') (hog : 0 ≤ (t' : Int) + o') (hj : ((t' : Int) + o').toNat = q) (hj' : z + 1 = q) (k : Go p e below Φ (T.setTop (mkF m q L (.int (b2i (decide (y.toInt < x.toInt))) :: S)))) : Go p e below Φ (T.setTop (mkF m pc L (.long y :: .long x :: S))) :=
  g_lcmp_le hA hx hd hq1 hd' ho hz' ht0 (fun h => g_iconst hA hx hz rfl hj' (by rw [show decide (y.toInt < x.toInt) = false from decide_eq_false (by omega)] at k; exact k)) (fun h => g_iconst hA hx ht rfl ht' (g_goto hA hx hg hog hj (by rw [show decide (y.toInt < x.toInt) = true from decide_eq_true (by omega)] at k; exact k)))
theorem g_selB_ne (hA : At T m c below) (hx : p.tables.exec = Jvm.exec) {o o' : Int} {z t t' : Nat} {b : Bool} (hd : decode c.code pc = .ok (.ifCond .ne o, 3)) (ho : 0 ≤ (pc : Int) + o) (hz' : ((pc : Int) + o).toNat = z) (ht0 : pc + 3 = t) (hz : decode c.code z = .ok (.iconst 0, 1)) (ht : decode c.code t = .ok (.iconst 1, 1)) (hg : decode c.code t' = .ok (.goto o', 3)) (ht' : t + 1 = t') (hog : 0 ≤ (t' : Int) + o') (hj : ((t' : Int) + o').toNat = q) (hj' : z + 1 = q) (k : Go p e below Φ (T.setTop (mkF m q L (.int (b2i (!b)) :: S)))) : Go p e below Φ (T.setTop (mkF m pc L (.int (b2i b) :: S))) :=
  g_ifB_ne hA hx hd ho hz' ht0 (fun h => g_iconst hA hx hz rfl hj' (by subst h; exact k)) (fun h => g_iconst hA hx ht rfl ht' (g_goto hA hx hg hog hj (by subst h; exact k)))
theorem g_selB_eq (hA : At T m c below) (hx : p.tables.exec = Jvm.exec) {o o' : Int} {z t t' : Nat} {b : Bool} (hd : decode c.code pc = .ok (.ifCond .eq o, 3)) (ho : 0 ≤ (pc : Int) + o) (hz' : ((pc : Int) + o).toNat = z) (ht0 : pc + 3 = t) (hz : decode c.code z = .ok (.iconst 0, 1)) (ht : decode c.code t = .ok (.iconst 1, 1)) (hg : decode c.code t' = .ok (.goto o', 3)) (ht' : t + 1 = t') (hog : 0 ≤ (t' : Int) + o') (hj : ((t' : Int) + o').toNat = q) (hj' : z + 1 = q) (k : Go p e below Φ (T.setTop (mkF m q L (.int (b2i (b)) :: S)))) : Go p e below Φ (T.setTop (mkF m pc L (.int (b2i b) :: S))) :=
  g_ifB_eq hA hx hd ho hz' ht0 (fun h => g_iconst hA hx hz rfl hj' (by subst h; exact k)) (fun h => g_iconst hA hx ht rfl ht' (g_goto hA hx hg hog hj (by subst h; exact k)))
theorem g_selBB_ne (hA : At T m c below) (hx : p.tables.exec = Jvm.exec) {o o' : Int} {z t t' : Nat} {a b : Bool} (hd : decode c.code pc = .ok (.if_icmp .ne o, 3)) (ho : 0 ≤ (pc : Int) + o) (hz' : ((pc : Int) + o).toNat = z) (ht0 : pc + 3 = t) (hz : decode c.code z = .ok (.iconst 0, 1)) (ht : decode c.code t = .ok (.iconst 1, 1)) (hg : decode c.code t' = .ok (.goto o', 3)) (ht' : t + 1 = t') (hog : 0 ≤ (t' : Int) + o') (hj : ((t' : Int) + o').toNat = q) (hj' : z + 1 = q) (k : Go p e below Φ (T.setTop (mkF m q L (.int (b2i (a == b)) :: S)))) : Go p e below Φ (T.setTop (mkF m pc L (.int (b2i b) :: .int (b2i a) :: S))) :=
  g_icmp hA hx hd ho hz' ht0 (fun h => g_iconst hA hx hz rfl hj' (by cases a <;> cases b <;> first | exact k | exact Bool.noConfusion h)) (fun h => g_iconst hA hx ht rfl ht' (g_goto hA hx hg hog hj (by cases a <;> cases b <;> first | exact k | exact Bool.noConfusion h)))
theorem g_selBB_eq (hA : At T m c below) (hx : p.tables.exec = Jvm.exec) {o o' : Int} {z t t' : Nat} {a b : Bool} (hd : decode c.code pc = .ok (.if_icmp .eq o, 3)) (ho : 0 ≤ (pc : Int) + o) (hz' : ((pc : Int) + o).toNat = z) (ht0 : pc + 3 = t) (hz : decode c.code z = .ok (.iconst 0, 1)) (ht : decode c.code t = .ok (.iconst 1, 1)) (hg : decode c.code t' = .ok (.goto o', 3)) (ht' : t + 1 = t') (hog : 0 ≤ (t' : Int) + o') (hj : ((t' : Int) + o').toNat = q) (hj' : z + 1 = q) (k : Go p e below Φ (T.setTop (mkF m q L (.int (b2i (a != b)) :: S)))) : Go p e below Φ (T.setTop (mkF m pc L (.int (b2i b) :: .int (b2i a) :: S))) :=
  g_icmp hA hx hd ho hz' ht0 (fun h => g_iconst hA hx hz rfl hj' (by cases a <;> cases b <;> first | exact k | exact Bool.noConfusion h)) (fun h => g_iconst hA hx ht rfl ht' (g_goto hA hx hg hog hj (by cases a <;> cases b <;> first | exact k | exact Bool.noConfusion h)))
theorem g_ldcI (X : Stand p l e R s m args below meth c T locs cells slots) (hx : p.tables.exec = Jvm.exec) (hZ : Z.Warmed39 s.vm) {own : String} {index : Nat} {v : Int32} (hown : s.vm.findClass own = some m.cls) (w : (Jvm.Cond.constant own index v).before a0 Z = true) (hd : decode c.code pc = .ok (.ldc index, 2)) (hq : pc + 2 = q) (k : Go p e below Φ (T.setTop (mkF m q L (.int v :: S)))) : Go p e below Φ (T.setTop (mkF m pc L S)) := by
  subst hq; exact Go.by (X.ldcInt hx hown (mvT hZ w) rfl hd) k
theorem g_ldcWI (X : Stand p l e R s m args below meth c T locs cells slots) (hx : p.tables.exec = Jvm.exec) (hZ : Z.Warmed39 s.vm) {own : String} {index : Nat} {v : Int32} (hown : s.vm.findClass own = some m.cls) (w : (Jvm.Cond.constant own index v).before a0 Z = true) (hd : decode c.code pc = .ok (.ldc_w index, 3)) (hq : pc + 3 = q) (k : Go p e below Φ (T.setTop (mkF m q L (.int v :: S)))) : Go p e below Φ (T.setTop (mkF m pc L S)) := by
  subst hq; exact Go.by (X.ldcWInt hx hown (mvT hZ w) rfl hd) k
theorem g_ldc2J (X : Stand p l e R s m args below meth c T locs cells slots) (hx : p.tables.exec = Jvm.exec) (hZ : Z.Warmed39 s.vm) {own : String} {index : Nat} {v : Int64} (hown : s.vm.findClass own = some m.cls) (w : (Jvm.Cond.constantLong own index v).before a0 Z = true) (hd : decode c.code pc = .ok (.ldc2_w index, 3)) (hq : pc + 3 = q) (k : Go p e below Φ (T.setTop (mkF m q L (.long v :: S)))) : Go p e below Φ (T.setTop (mkF m pc L S)) := by
  subst hq; exact Go.by (X.ldc2Long hx hown (mvT hZ w) rfl hd) k
theorem g_ireturn (X : Stand p l e R s m args below meth c T locs cells slots) (hx : p.tables.exec = Jvm.exec) {Q : Option Value → Heap → List Loc → Prop} {rm : Room} (hlk : meth.locks = false) {z : Int32} (hrt : meth.sig.returnType = some .int) (hd : decode c.code pc = .ok (.ireturn, 1)) (hc : cells ≤ rm.cells) (hs : slots ≤ rm.slots) (hQ : Q (some (.int z)) T.heap locs) : Go p e below (Fin0 s rm Q) (T.setTop (mkF m pc L (.int z :: S))) := by
  obtain ⟨fs, hr, hrun, hended, hW, hsame⟩ := X.leave (v := (some (.int z))) (fun h => by rw [hrt] at h; cases h) hlk
  exact ⟨_, _, retOut X hx hrt rfl (Or.inl ⟨rfl, Or.inl rfl, z, rfl⟩) hd hr, hrun, hended, _, _, rfl, hQ, ⟨_, rfl⟩, hW, hsame.mono hc hs⟩
theorem g_lreturn (X : Stand p l e R s m args below meth c T locs cells slots) (hx : p.tables.exec = Jvm.exec) {Q : Option Value → Heap → List Loc → Prop} {rm : Room} (hlk : meth.locks = false) {z : Int64} (hrt : meth.sig.returnType = some .long) (hd : decode c.code pc = .ok (.lreturn, 1)) (hc : cells ≤ rm.cells) (hs : slots ≤ rm.slots) (hQ : Q (some (.long z)) T.heap locs) : Go p e below (Fin0 s rm Q) (T.setTop (mkF m pc L (.long z :: S))) := by
  obtain ⟨fs, hr, hrun, hended, hW, hsame⟩ := X.leave (v := (some (.long z))) (fun h => by rw [hrt] at h; cases h) hlk
  exact ⟨_, _, retOut X hx hrt rfl (Or.inr (Or.inl ⟨rfl, rfl, z, rfl⟩)) hd hr, hrun, hended, _, _, rfl, hQ, ⟨_, rfl⟩, hW, hsame.mono hc hs⟩
theorem g_areturn (X : Stand p l e R s m args below meth c T locs cells slots) (hx : p.tables.exec = Jvm.exec) {Q : Option Value → Heap → List Loc → Prop} {rm : Room} (hlk : meth.locks = false) {w : Value} {t : FieldType} (hw : w.isRef = true) (hrt : meth.sig.returnType = some t) (ht : t.isReference = true) (hd : decode c.code pc = .ok (.areturn, 1)) (hc : cells ≤ rm.cells) (hs : slots ≤ rm.slots) (hQ : Q (some w) T.heap locs) : Go p e below (Fin0 s rm Q) (T.setTop (mkF m pc L (w :: S))) := by
  obtain ⟨fs, hr, hrun, hended, hW, hsame⟩ := X.leave (v := (some w)) (fun h => by rw [hrt] at h; cases h) hlk
  exact ⟨_, _, retOut X hx hrt (by cases t <;> first | rfl | cases ht) (Or.inr (Or.inr (Or.inr (Or.inr ⟨rfl, ht, hw⟩)))) hd hr, hrun, hended, _, _, rfl, hQ, ⟨_, rfl⟩, hW, hsame.mono hc hs⟩
theorem g_zreturn (X : Stand p l e R s m args below meth c T locs cells slots) (hx : p.tables.exec = Jvm.exec) {Q : Option Value → Heap → List Loc → Prop} {rm : Room} (hlk : meth.locks = false) {b : Bool} (hrt : meth.sig.returnType = some .boolean) (hd : decode c.code pc = .ok (.ireturn, 1)) (hc : cells ≤ rm.cells) (hs : slots ≤ rm.slots) (hQ : Q (some (.int (b2i b))) T.heap locs) : Go p e below (Fin0 s rm Q) (T.setTop (mkF m pc L (.int (b2i b) :: S))) := by
  obtain ⟨fs, hr, hrun, hended, hW, hsame⟩ := X.leave (v := (some (.int (b2i b)))) (fun h => by rw [hrt] at h; cases h) hlk
  exact ⟨_, _, retOut X hx hrt (by cases b <;> rfl) (Or.inl ⟨rfl, Or.inr (Or.inl rfl), _, rfl⟩) hd hr, hrun, hended, _, _, rfl, hQ, ⟨_, rfl⟩, hW, hsame.mono hc hs⟩
theorem g_nreturn (X : Stand p l e R s m args below meth c T locs cells slots) (hx : p.tables.exec = Jvm.exec) {Q : Option Value → Heap → List Loc → Prop} {rm : Room} (hlk : meth.locks = false) {z : Int32} {t : FieldType} (hn : narrow t (.int z) = .int z) (ht : t = .int ∨ t = .boolean ∨ t = .byte ∨ t = .char ∨ t = .short) (hrt : meth.sig.returnType = some t) (hd : decode c.code pc = .ok (.ireturn, 1)) (hc : cells ≤ rm.cells) (hs : slots ≤ rm.slots) (hQ : Q (some (.int z)) T.heap locs) : Go p e below (Fin0 s rm Q) (T.setTop (mkF m pc L (.int z :: S))) := by
  obtain ⟨fs, hr, hrun, hended, hW, hsame⟩ := X.leave (v := (some (.int z))) (fun h => by rw [hrt] at h; cases h) hlk
  exact ⟨_, _, retOut X hx hrt hn (Or.inl ⟨rfl, ht, z, rfl⟩) hd hr, hrun, hended, _, _, rfl, hQ, ⟨_, rfl⟩, hW, hsame.mono hc hs⟩
theorem g_ret (X : Stand p l e R s m args below meth c T locs cells slots) (hx : p.tables.exec = Jvm.exec) {Q : Option Value → Heap → List Loc → Prop} {rm : Room} (hlk : meth.locks = false) (hrt : meth.sig.returnType = none) (hd : decode c.code pc = .ok (.return_, 1)) (hc : cells ≤ rm.cells) (hs : slots ≤ rm.slots) (hQ : Q none T.heap locs) : Go p e below (Fin0 s rm Q) (T.setTop (mkF m pc L [])) := by
  obtain ⟨fs, hr, hrun, hended, hW, hsame⟩ := X.leave (v := none) (fun _ => rfl) hlk
  exact ⟨_, _, X.returnOut hx hrt hd hr, hrun, hended, _, _, rfl, hQ, ⟨_, rfl⟩, hW, hsame.mono hc hs⟩
theorem g_callS (X : Stand p l e R s m args below meth c T locs cells slots) (hx : p.tables.exec = Jvm.exec) (hZ : Z.Warmed39 s.vm) {own : String} {index : Nat} {y : MethodName} {bytes : ByteArray} {maxL : Nat} {ret : Option FieldType} (hown : s.vm.findClass own = some m.cls) (w1 : (Jvm.Cond.methodLink own index y).before a0 Z = true) (w2 : (Jvm.Cond.static y).before a0 Z = true) (w3 : (Jvm.Cond.initialized y.cls).before a0 Z = true) (w4 : (Jvm.Cond.code y bytes maxL ret).before a0 Z = true) (hy : y.cls ≠ "java/lang/invoke/MethodHandle" ∧ y.cls ≠ "java/lang/invoke/VarHandle")
    {rm : Room} {as' : Array Value} {Q : Option Value → Heap → List Loc → Prop} (C : Ctr l Z y bytes maxL ret rm [] as' h Q) {argsL rest : List Value} {ps : List FieldType} {rt : Option FieldType} (hpd : parseMethodDescriptor y.desc = some ⟨ps, rt⟩) (hlen : argsL.length = ps.length) (hst : S = argsL.reverse ++ rest) (has : argsL.toArray = as') (hd : decode c.code pc = .ok (.invokestatic index, 3)) (hq : pc + 3 = q) (hsz : L.size = c.maxLocals) (eT : T.heap = h)
    (hf : rm.frames + 1 ≤ R.frames) {W : Nat} (hW : (rest.map fun v => v.category).sum = W) (hl : W + (maxL + 11) + rm.locals ≤ R.locals) (hc : cells + rm.cells ≤ R.cells) (hs : slots + rm.slots ≤ R.slots)
    (k : ∀ v T' Lc, Stand p l e R s m args below meth c T' (locs ++ Lc) (cells + rm.cells) (slots + rm.slots) → Q v T'.heap Lc → Go p e below Φ (T'.setTop (mkF m q L (v.toList ++ rest)))) : Go p e below Φ (T.setTop (mkF m pc L S)) := by
  subst hq has
  obtain ⟨v, _, ⟨T', L', k', n'⟩, -, X', ⟨Lc, hQ, l1, y1, z1⟩, st⟩ := Jvm.LawKit.callS X hx (y := y) hown (mvT hZ w1) (mvT hZ w2) (mvT hZ w3) (mvT hZ w4) hy (backOf (W := W) C hZ w4 w3 hf hl) (g := mkF m pc L S) rfl hsz (argsL := argsL) (rest := rest) (lenOf hpd hlen) hst (by show 2 * 0 + _ ≤ _; omega) hd (fun _ _ => ⟨rfl, eT, hc, hs⟩)
  dsimp only [Pt.U, Pt.locs, Pt.cells, Pt.slots] at X' l1 y1 z1 st hQ
  subst l1 y1 z1
  exact Go.by st (k v T' Lc X' hQ)
theorem g_callSP (X : Stand p l e R s m args below meth c T locs cells slots) (hx : p.tables.exec = Jvm.exec) (hZ : Z.Warmed39 s.vm) {own : String} {index : Nat} {y : MethodName} {bytes : ByteArray} {maxL : Nat} {ret : Option FieldType} (hown : s.vm.findClass own = some m.cls) (w1 : (Jvm.Cond.methodLink own index y).before a0 Z = true) (w2 : (Jvm.Cond.static y).before a0 Z = true) (w3 : (Jvm.Cond.initialized y.cls).before a0 Z = true) (w4 : (Jvm.Cond.code y bytes maxL ret).before a0 Z = true) (hy : y.cls ≠ "java/lang/invoke/MethodHandle" ∧ y.cls ≠ "java/lang/invoke/VarHandle")
    {rm : Room} {as' : Array Value} {r : Value} (C : Ctr l Z y bytes maxL ret rm [] as' h (PQ r h)) {argsL rest : List Value} {ps : List FieldType} {rt : Option FieldType} (hpd : parseMethodDescriptor y.desc = some ⟨ps, rt⟩) (hlen : argsL.length = ps.length) (hst : S = argsL.reverse ++ rest) (has : argsL.toArray = as') (hd : decode c.code pc = .ok (.invokestatic index, 3)) (hq : pc + 3 = q) (hsz : L.size = c.maxLocals) (eT : T.heap = h)
    (hf : rm.frames + 1 ≤ R.frames) {W : Nat} (hW : (rest.map fun v => v.category).sum = W) (hl : W + (maxL + 11) + rm.locals ≤ R.locals) (hc : rm.cells = 0) (hs : rm.slots = 0) (hc' : cells ≤ R.cells) (hs' : slots ≤ R.slots)
    (k : ∀ T', Stand p l e R s m args below meth c T' locs cells slots → T'.heap = h → Go p e below Φ (T'.setTop (mkF m q L (r :: rest)))) : Go p e below Φ (T.setTop (mkF m pc L S)) := by
  refine g_callS X hx hZ hown w1 w2 w3 w4 hy C hpd hlen hst has hd hq hsz eT hf hW hl (by omega) (by omega) ?_
  intro v T' Lc X' hQ
  obtain ⟨rfl, e1, rfl⟩ := hQ
  rw [hc, hs, List.append_nil] at X'
  exact k T' X' e1
theorem g_callSI (X : Stand p l e R s m args below meth c T locs cells slots) (hx : p.tables.exec = Jvm.exec) (hZ : Z.Warmed39 s.vm) {own : String} {index : Nat} {y : MethodName} {bytes : ByteArray} {maxL : Nat} {ret : Option FieldType} (hown : s.vm.findClass own = some m.cls) (w1 : (Jvm.Cond.methodLink own index y).before a0 Z = true) (w2 : (Jvm.Cond.static y).before a0 Z = true) (w3 : (Jvm.Cond.initialized y.cls).before a0 Z = true) (w4 : (Jvm.Cond.code y bytes maxL ret).before a0 Z = true) (hy : y.cls ≠ "java/lang/invoke/MethodHandle" ∧ y.cls ≠ "java/lang/invoke/VarHandle")
    {rm : Room} {as' : Array Value} {P : Int32 → Prop} (C : Ctr l Z y bytes maxL ret rm [] as' h (IQ P h)) {argsL rest : List Value} {ps : List FieldType} {rt : Option FieldType} (hpd : parseMethodDescriptor y.desc = some ⟨ps, rt⟩) (hlen : argsL.length = ps.length) (hst : S = argsL.reverse ++ rest) (has : argsL.toArray = as') (hd : decode c.code pc = .ok (.invokestatic index, 3)) (hq : pc + 3 = q) (hsz : L.size = c.maxLocals) (eT : T.heap = h)
    (hf : rm.frames + 1 ≤ R.frames) {W : Nat} (hW : (rest.map fun v => v.category).sum = W) (hl : W + (maxL + 11) + rm.locals ≤ R.locals) (hc : rm.cells = 0) (hs : rm.slots = 0) (hc' : cells ≤ R.cells) (hs' : slots ≤ R.slots)
    (k : ∀ T' r, Stand p l e R s m args below meth c T' locs cells slots → T'.heap = h → P r → Go p e below Φ (T'.setTop (mkF m q L (.int r :: rest)))) : Go p e below Φ (T.setTop (mkF m pc L S)) := by
  refine g_callS X hx hZ hown w1 w2 w3 w4 hy C hpd hlen hst has hd hq hsz eT hf hW hl (by omega) (by omega) ?_
  intro v T' Lc X' hQ
  obtain ⟨r, rfl, hP, e1, rfl⟩ := hQ
  rw [hc, hs, List.append_nil] at X'
  exact k T' r X' e1 hP
theorem g_callSJ (X : Stand p l e R s m args below meth c T locs cells slots) (hx : p.tables.exec = Jvm.exec) (hZ : Z.Warmed39 s.vm) {own : String} {index : Nat} {y : MethodName} {bytes : ByteArray} {maxL : Nat} {ret : Option FieldType} (hown : s.vm.findClass own = some m.cls) (w1 : (Jvm.Cond.methodLink own index y).before a0 Z = true) (w2 : (Jvm.Cond.static y).before a0 Z = true) (w3 : (Jvm.Cond.initialized y.cls).before a0 Z = true) (w4 : (Jvm.Cond.code y bytes maxL ret).before a0 Z = true) (hy : y.cls ≠ "java/lang/invoke/MethodHandle" ∧ y.cls ≠ "java/lang/invoke/VarHandle")
    {rm : Room} {as' : Array Value} {P : Int64 → Prop} (C : Ctr l Z y bytes maxL ret rm [] as' h (JQ P h)) {argsL rest : List Value} {ps : List FieldType} {rt : Option FieldType} (hpd : parseMethodDescriptor y.desc = some ⟨ps, rt⟩) (hlen : argsL.length = ps.length) (hst : S = argsL.reverse ++ rest) (has : argsL.toArray = as') (hd : decode c.code pc = .ok (.invokestatic index, 3)) (hq : pc + 3 = q) (hsz : L.size = c.maxLocals) (eT : T.heap = h)
    (hf : rm.frames + 1 ≤ R.frames) {W : Nat} (hW : (rest.map fun v => v.category).sum = W) (hl : W + (maxL + 11) + rm.locals ≤ R.locals) (hc : rm.cells = 0) (hs : rm.slots = 0) (hc' : cells ≤ R.cells) (hs' : slots ≤ R.slots)
    (k : ∀ T' r, Stand p l e R s m args below meth c T' locs cells slots → T'.heap = h → P r → Go p e below Φ (T'.setTop (mkF m q L (.long r :: rest)))) : Go p e below Φ (T.setTop (mkF m pc L S)) := by
  refine g_callS X hx hZ hown w1 w2 w3 w4 hy C hpd hlen hst has hd hq hsz eT hf hW hl (by omega) (by omega) ?_
  intro v T' Lc X' hQ
  obtain ⟨r, rfl, hP, e1, rfl⟩ := hQ
  rw [hc, hs, List.append_nil] at X'
  exact k T' r X' e1 hP
end OwnKit

/-! ### the own kit, heap part -/
def ArrL (Z : State) (h : Heap) (a : Addr) (ty : FieldType) (vals : List Value) : Prop := ∃ c : Cell, Arr Z h a c ty ∧ c.slots = vals.toArray ∧ vals.length < 2 ^ 31
abbrev IA (Z : State) (h : Heap) (a : Addr) (vs : List Int32) : Prop := ArrL Z h a .int (vs.map Value.int)
abbrev LA (Z : State) (h : Heap) (a : Addr) (vs : List Int64) : Prop := ArrL Z h a .long (vs.map Value.long)
abbrev ZA (Z : State) (h : Heap) (a : Addr) (vs : List Bool) : Prop := ArrL Z h a .boolean (vs.map fun b => Value.int (b2i b))
theorem own_clamp (j : Int32) : j.toNatClampNeg = j.toInt.toNat := rfl
theorem idxN {j : Int32} {i : Nat} (hj : j.toInt = (i : Int)) : ¬ j < 0 ∧ j.toNatClampNeg = i := by
  rw [own_clamp, Int32.lt_iff_toInt_lt, show (0 : Int32).toInt = 0 from rfl, hj]; omega
theorem idxIn {j : Int32} {i n : Nat} (hj : j.toInt = (i : Int)) (hi : i < n) : ¬ (j < 0 ∨ n ≤ j.toNatClampNeg) := by
  obtain ⟨h1, h2⟩ := idxN hj; exact fun h => h.elim h1 fun h => by rw [h2] at h; omega
section OwnHeap
variable {p : Program} {l : Launch} {e : Env} {R : Room} {s : State} {m : MethodId} {args : Array Value} {below : List Frame} {meth : Method} {c : Code} {T : State} {locs : List Loc} {cells slots : Nat} {Z : State} {a0 : Array Value} {h : Heap} {Φ : Outcome → State → Prop} {pc q : Nat} {L : Array Slot} {S : List Value}
variable {h' : Heap} {a b o : Addr} {ty : FieldType} {vals : List Value} {sl : Nat} {v w : Value} {ws : List Addr}
theorem ArrL.lt (F : ArrL Z h a ty vals) : a < h.size := by obtain ⟨c, A, -⟩ := F; exact A.lt
theorem ArrL.ext (F : ArrL Z h a ty vals) (E : Ext h h') : ArrL Z h' a ty vals := by obtain ⟨c, A, r⟩ := F; exact ⟨c, A.ext E, r⟩
theorem ArrL.other (F : ArrL Z h a ty vals) (W : Wr h h' b sl v) (q : a ≠ b) : ArrL Z h' a ty vals := by obtain ⟨c, A, r⟩ := F; exact ⟨c, A.other W q, r⟩
theorem ArrL.keep (F : ArrL Z h a ty vals) (K : Keep h h' ws) (q : a ∉ ws) : ArrL Z h' a ty vals := by obtain ⟨c, A, r⟩ := F; exact ⟨c, ⟨K.2.1 a c A.1 q, A.2⟩, r⟩
theorem ArrL.len (F : ArrL Z h a ty vals) : vals.length < 2 ^ 31 := by obtain ⟨c, A, -, r⟩ := F; exact r
theorem ArrL.set (F : ArrL Z h a ty vals) {i : Nat} (W : Wr h h' a i v) : ArrL Z h' a ty (vals.set i v) := by
  obtain ⟨c, A, e1, r⟩ := F
  refine ⟨_, A.same W, ?_, by rw [List.length_set]; exact r⟩
  show c.slots.setIfInBounds i v = _
  rw [e1]; simp
theorem ArrL.new {k : ClassId} {z : Int32} {n : Nat} (A : Arr Z h a (newA k ty z) ty) (hz : z.toInt = (n : Int)) : ArrL Z h a ty (List.replicate n (defaultValue ty)) := by
  refine ⟨_, A, ?_, ?_⟩
  · show Array.replicate z.toNatClampNeg (defaultValue ty) = _
    rw [(idxN hz).2]; simp
  · have := rng32 z; rw [List.length_replicate]; omega
theorem IA.eq {us vs : List Int32} (F : IA Z h a us) (q : us = vs) : IA Z h a vs := q ▸ F
theorem LA.eq {us vs : List Int64} (F : LA Z h a us) (q : us = vs) : LA Z h a vs := q ▸ F
theorem ZA.eq {us vs : List Bool} (F : ZA Z h a us) (q : us = vs) : ZA Z h a vs := q ▸ F
theorem ne_new (h1 : a < h.size) (q : o = h.size) : a ≠ o := by subst q; exact Nat.ne_of_lt h1
theorem ne_ge (h1 : a < h.size) (q : h.size ≤ o) : a ≠ o := Nat.ne_of_lt (Nat.lt_of_lt_of_le h1 q)
theorem ge_new {n0 : Nat} (h1 : n0 ≤ h.size) (q : o = h.size) : n0 ≤ o := by subst q; exact h1
theorem Fr.wr {n0 i : Nat} (N : Fr n0 locs) (q : n0 ≤ a) : Fr n0 (locs ++ [⟨a, i⟩]) := N.app fun y hy => by cases List.mem_singleton.mp hy; exact q
theorem g_iload_ (X : Stand p l e R s m args below meth c T locs cells slots) (hx : p.tables.exec = Jvm.exec) (hZ : Z.Warmed39 s.vm) (eT : T.heap = h) {vs : List Int32} (F : IA Z h a vs) {j : Int32} {i : Nat} {v : Int32} (hj : j.toInt = (i : Int)) (hv : vs[i]? = some v) (hd : decode c.code pc = .ok (.iaload, 1)) (hq : pc + 1 = q) (k : Go p e below Φ (T.setTop (mkF m q L (.int v :: S)))) : Go p e below Φ (T.setTop (mkF m pc L (.int j :: .ref a :: S))) := by
  subst hq
  obtain ⟨cl, A, e1, r⟩ := F
  have hi : i < vs.length := (List.getElem?_eq_some_iff.mp hv).1
  have hs : cl.slots.size = vs.length := by rw [e1]; simp
  refine Go.by (X.iaload hx (cell := cl) (j := j) (v := (.int v)) (by rw [eT]; exact A.1) (State.isArrayOf_alike hZ.alike A.2.1) A.2.2 (idxIn hj (by rw [hs]; exact hi)) (by rw [(idxN hj).2, e1]; simp [hv]) rfl rfl hd) k
theorem g_istore_ (X : Stand p l e R s m args below meth c T locs cells slots) (hx : p.tables.exec = Jvm.exec) (hZ : Z.Warmed39 s.vm) (eT : T.heap = h) {vs : List Int32} (F : IA Z h a vs) {j : Int32} {i : Nat} {v : Int32} (hj : j.toInt = (i : Int)) (hi : i < vs.length) (hd : decode c.code pc = .ok (.iastore, 1)) (hq : pc + 1 = q) (k : ∀ T' h', Stand p l e R s m args below meth c T' (locs ++ [⟨a, i⟩]) cells slots → T'.heap = h' → Wr h h' a i (.int v) → IA Z h' a (vs.set i v) → Go p e below Φ (T'.setTop (mkF m q L S))) : Go p e below Φ (T.setTop (mkF m pc L (.int v :: .int j :: .ref a :: S))) := by
  subst hq
  have F0 := F
  obtain ⟨cl, A, e1, r⟩ := F
  have hs : cl.slots.size = vs.length := by rw [e1]; simp
  obtain ⟨T', h', X', e', W, st⟩ := stI X hx hZ eT A (j := j) (x := v) (idxIn hj (by rw [hs]; exact hi)) (g := mkF m pc L ((.int v) :: .int j :: .ref a :: S)) rfl rfl hd
  rw [(idxN hj).2] at X' W
  refine Go.by st (k T' h' X' e' W ?_)
  have := F0.set W
  show ArrL Z h' a .int ((vs.set i v).map Value.int)
  rw [List.map_set]; exact this
theorem g_inew_ (X : Stand p l e R s m args below meth c T locs cells slots) (hx : p.tables.exec = Jvm.exec) (hZ : Z.Warmed39 s.vm) (w : (Jvm.Cond.arrayClass .int).before a0 Z = true) (eT : T.heap = h) {z : Int32} {n cap : Nat} (hz : z.toInt = (n : Int)) (hn : n ≤ cap) (hb : cap * 8 ≤ 536870912) (hd : decode c.code pc = .ok (.newarray .int, 2)) (hq : pc + 2 = q) (hc : cells + 1 ≤ R.cells) (hl : slots + cap ≤ R.slots) (k : ∀ T' h' o, Stand p l e R s m args below meth c T' locs (cells + 1) (slots + cap) → T'.heap = h' → Ext h h' → o = h.size → IA Z h' o (List.replicate n 0) → Go p e below Φ (T'.setTop (mkF m q L (.ref o :: S)))) : Go p e below Φ (T.setTop (mkF m pc L (.int z :: S))) := by
  subst hq
  obtain ⟨T', h', cA, X', e', E, A, st⟩ := newP X hx hZ (aty := .int) w eT (g := mkF m pc L (.int z :: S)) rfl hd rfl (idxN hz).1 (cap := cap) (by rw [(idxN hz).2]; exact hn) hb hc hl
  refine Go.by st (k T' h' h.size X' e' E rfl ?_)
  have := ArrL.new A hz
  show ArrL Z h' h.size .int _
  rw [List.map_replicate]; exact this
theorem g_lload_ (X : Stand p l e R s m args below meth c T locs cells slots) (hx : p.tables.exec = Jvm.exec) (hZ : Z.Warmed39 s.vm) (eT : T.heap = h) {vs : List Int64} (F : LA Z h a vs) {j : Int32} {i : Nat} {v : Int64} (hj : j.toInt = (i : Int)) (hv : vs[i]? = some v) (hd : decode c.code pc = .ok (.laload, 1)) (hq : pc + 1 = q) (k : Go p e below Φ (T.setTop (mkF m q L (.long v :: S)))) : Go p e below Φ (T.setTop (mkF m pc L (.int j :: .ref a :: S))) := by
  subst hq
  obtain ⟨cl, A, e1, r⟩ := F
  have hi : i < vs.length := (List.getElem?_eq_some_iff.mp hv).1
  have hs : cl.slots.size = vs.length := by rw [e1]; simp
  refine Go.by (X.laload hx (cell := cl) (j := j) (v := (.long v)) (by rw [eT]; exact A.1) (State.isArrayOf_alike hZ.alike A.2.1) A.2.2 (idxIn hj (by rw [hs]; exact hi)) (by rw [(idxN hj).2, e1]; simp [hv]) rfl rfl hd) k
theorem g_lstore_ (X : Stand p l e R s m args below meth c T locs cells slots) (hx : p.tables.exec = Jvm.exec) (hZ : Z.Warmed39 s.vm) (eT : T.heap = h) {vs : List Int64} (F : LA Z h a vs) {j : Int32} {i : Nat} {v : Int64} (hj : j.toInt = (i : Int)) (hi : i < vs.length) (hd : decode c.code pc = .ok (.lastore, 1)) (hq : pc + 1 = q) (k : ∀ T' h', Stand p l e R s m args below meth c T' (locs ++ [⟨a, i⟩]) cells slots → T'.heap = h' → Wr h h' a i (.long v) → LA Z h' a (vs.set i v) → Go p e below Φ (T'.setTop (mkF m q L S))) : Go p e below Φ (T.setTop (mkF m pc L (.long v :: .int j :: .ref a :: S))) := by
  subst hq
  have F0 := F
  obtain ⟨cl, A, e1, r⟩ := F
  have hs : cl.slots.size = vs.length := by rw [e1]; simp
  obtain ⟨T', h', X', e', W, st⟩ := stJ X hx hZ eT A (j := j) (x := v) (idxIn hj (by rw [hs]; exact hi)) (g := mkF m pc L ((.long v) :: .int j :: .ref a :: S)) rfl rfl hd
  rw [(idxN hj).2] at X' W
  refine Go.by st (k T' h' X' e' W ?_)
  have := F0.set W
  show ArrL Z h' a .long ((vs.set i v).map Value.long)
  rw [List.map_set]; exact this
theorem g_lnew_ (X : Stand p l e R s m args below meth c T locs cells slots) (hx : p.tables.exec = Jvm.exec) (hZ : Z.Warmed39 s.vm) (w : (Jvm.Cond.arrayClass .long).before a0 Z = true) (eT : T.heap = h) {z : Int32} {n cap : Nat} (hz : z.toInt = (n : Int)) (hn : n ≤ cap) (hb : cap * 8 ≤ 536870912) (hd : decode c.code pc = .ok (.newarray .long, 2)) (hq : pc + 2 = q) (hc : cells + 1 ≤ R.cells) (hl : slots + cap ≤ R.slots) (k : ∀ T' h' o, Stand p l e R s m args below meth c T' locs (cells + 1) (slots + cap) → T'.heap = h' → Ext h h' → o = h.size → LA Z h' o (List.replicate n 0) → Go p e below Φ (T'.setTop (mkF m q L (.ref o :: S)))) : Go p e below Φ (T.setTop (mkF m pc L (.int z :: S))) := by
  subst hq
  obtain ⟨T', h', cA, X', e', E, A, st⟩ := newP X hx hZ (aty := .long) w eT (g := mkF m pc L (.int z :: S)) rfl hd rfl (idxN hz).1 (cap := cap) (by rw [(idxN hz).2]; exact hn) hb hc hl
  refine Go.by st (k T' h' h.size X' e' E rfl ?_)
  have := ArrL.new A hz
  show ArrL Z h' h.size .long _
  rw [List.map_replicate]; exact this
theorem g_zload_ (X : Stand p l e R s m args below meth c T locs cells slots) (hx : p.tables.exec = Jvm.exec) (hZ : Z.Warmed39 s.vm) (eT : T.heap = h) {vs : List Bool} (F : ZA Z h a vs) {j : Int32} {i : Nat} {v : Bool} (hj : j.toInt = (i : Int)) (hv : vs[i]? = some v) (hd : decode c.code pc = .ok (.baload, 1)) (hq : pc + 1 = q) (k : Go p e below Φ (T.setTop (mkF m q L (.int (b2i v) :: S)))) : Go p e below Φ (T.setTop (mkF m pc L (.int j :: .ref a :: S))) := by
  subst hq
  obtain ⟨cl, A, e1, r⟩ := F
  have hi : i < vs.length := (List.getElem?_eq_some_iff.mp hv).1
  have hs : cl.slots.size = vs.length := by rw [e1]; simp
  refine Go.by (X.baloadBooleans hx (cell := cl) (j := j) (v := (.int (b2i v))) (by rw [eT]; exact A.1) (State.isArrayOf_alike hZ.alike A.2.1) A.2.2 (idxIn hj (by rw [hs]; exact hi)) (by rw [(idxN hj).2, e1]; simp [hv]) rfl rfl hd) k
theorem g_zstore_ (X : Stand p l e R s m args below meth c T locs cells slots) (hx : p.tables.exec = Jvm.exec) (hZ : Z.Warmed39 s.vm) (eT : T.heap = h) {vs : List Bool} (F : ZA Z h a vs) {j : Int32} {i : Nat} {v : Bool} (hj : j.toInt = (i : Int)) (hi : i < vs.length) (hd : decode c.code pc = .ok (.bastore, 1)) (hq : pc + 1 = q) (k : ∀ T' h', Stand p l e R s m args below meth c T' (locs ++ [⟨a, i⟩]) cells slots → T'.heap = h' → Wr h h' a i (.int (b2i v)) → ZA Z h' a (vs.set i v) → Go p e below Φ (T'.setTop (mkF m q L S))) : Go p e below Φ (T.setTop (mkF m pc L (.int (b2i v) :: .int j :: .ref a :: S))) := by
  subst hq
  have F0 := F
  obtain ⟨cl, A, e1, r⟩ := F
  have hs : cl.slots.size = vs.length := by rw [e1]; simp
  obtain ⟨T', h', X', e', W, st⟩ := stZ X hx hZ eT A (j := j) (x := b2i v) (idxIn hj (by rw [hs]; exact hi)) (g := mkF m pc L ((.int (b2i v)) :: .int j :: .ref a :: S)) rfl rfl hd
  have W : Wr h h' a j.toNatClampNeg (.int (b2i v)) := by have W' := W; rw [b2i_nar] at W'; exact W'
  rw [(idxN hj).2] at X' W
  refine Go.by st (k T' h' X' e' W ?_)
  have := F0.set W
  show ArrL Z h' a .boolean ((vs.set i v).map (fun b => Value.int (b2i b)))
  rw [List.map_set]; exact this
theorem g_znew_ (X : Stand p l e R s m args below meth c T locs cells slots) (hx : p.tables.exec = Jvm.exec) (hZ : Z.Warmed39 s.vm) (w : (Jvm.Cond.arrayClass .boolean).before a0 Z = true) (eT : T.heap = h) {z : Int32} {n cap : Nat} (hz : z.toInt = (n : Int)) (hn : n ≤ cap) (hb : cap * 8 ≤ 536870912) (hd : decode c.code pc = .ok (.newarray .boolean, 2)) (hq : pc + 2 = q) (hc : cells + 1 ≤ R.cells) (hl : slots + cap ≤ R.slots) (k : ∀ T' h' o, Stand p l e R s m args below meth c T' locs (cells + 1) (slots + cap) → T'.heap = h' → Ext h h' → o = h.size → ZA Z h' o (List.replicate n false) → Go p e below Φ (T'.setTop (mkF m q L (.ref o :: S)))) : Go p e below Φ (T.setTop (mkF m pc L (.int z :: S))) := by
  subst hq
  obtain ⟨T', h', cA, X', e', E, A, st⟩ := newP X hx hZ (aty := .boolean) w eT (g := mkF m pc L (.int z :: S)) rfl hd rfl (idxN hz).1 (cap := cap) (by rw [(idxN hz).2]; exact hn) hb hc hl
  refine Go.by st (k T' h' h.size X' e' E rfl ?_)
  have := ArrL.new A hz
  show ArrL Z h' h.size .boolean _
  rw [List.map_replicate]; exact this
theorem g_bnew_ (X : Stand p l e R s m args below meth c T locs cells slots) (hx : p.tables.exec = Jvm.exec) (hZ : Z.Warmed39 s.vm) (w : (Jvm.Cond.arrayClass .byte).before a0 Z = true) (eT : T.heap = h) {z : Int32} {n cap : Nat} (hz : z.toInt = (n : Int)) (hn : n ≤ cap) (hb : cap * 8 ≤ 536870912) (hd : decode c.code pc = .ok (.newarray .byte, 2)) (hq : pc + 2 = q) (hc : cells + 1 ≤ R.cells) (hl : slots + cap ≤ R.slots) (k : ∀ T' h' o, Stand p l e R s m args below meth c T' locs (cells + 1) (slots + cap) → T'.heap = h' → Ext h h' → o = h.size → ArrL Z h' o .byte (List.replicate n (.int 0)) → Go p e below Φ (T'.setTop (mkF m q L (.ref o :: S)))) : Go p e below Φ (T.setTop (mkF m pc L (.int z :: S))) := by
  subst hq
  obtain ⟨T', h', cA, X', e', E, A, st⟩ := newP X hx hZ (aty := .byte) w eT (g := mkF m pc L (.int z :: S)) rfl hd rfl (idxN hz).1 (cap := cap) (by rw [(idxN hz).2]; exact hn) hb hc hl
  exact Go.by st (k T' h' h.size X' e' E rfl (ArrL.new A hz))
theorem g_bload_ (X : Stand p l e R s m args below meth c T locs cells slots) (hx : p.tables.exec = Jvm.exec) (hZ : Z.Warmed39 s.vm) (eT : T.heap = h) (F : ArrL Z h a .byte vals) {j : Int32} {i : Nat} {v : Int32} (hj : j.toInt = (i : Int)) (hv : vals[i]? = some (.int v)) (hd : decode c.code pc = .ok (.baload, 1)) (hq : pc + 1 = q) (k : Go p e below Φ (T.setTop (mkF m q L (.int v :: S)))) : Go p e below Φ (T.setTop (mkF m pc L (.int j :: .ref a :: S))) := by
  subst hq
  obtain ⟨cl, A, e1, r⟩ := F
  have hi : i < vals.length := (List.getElem?_eq_some_iff.mp hv).1
  have hs : cl.slots.size = vals.length := by rw [e1]; simp
  refine Go.by (X.baloadBytes hx (cell := cl) (j := j) (v := .int v) (by rw [eT]; exact A.1) (State.isArrayOf_alike hZ.alike A.2.1) A.2.2 (idxIn hj (by rw [hs]; exact hi)) (by rw [(idxN hj).2, e1]; simp [hv]) rfl rfl hd) k
theorem g_getS (X : Stand p l e R s m args below meth c T locs cells slots) (hx : p.tables.exec = Jvm.exec) (hZ : Z.Warmed39 s.vm) {own R0 n d : String} {index : Nat} (hown : s.vm.findClass own = some m.cls) (w : (Jvm.Cond.fieldLink own index R0 n d).before a0 Z = true) (eT : T.heap = h) (F : Sta Z h R0 n d v) (hd : decode c.code pc = .ok (.getstatic index, 3)) (hq : pc + 3 = q) (k : ∀ T', Stand p l e R s m args below meth c T' locs cells slots → T'.heap = h → Go p e below Φ (T'.setTop (mkF m q L (v :: S)))) : Go p e below Φ (T.setTop (mkF m pc L S)) := by
  subst hq
  obtain ⟨T', X', e', st⟩ := getS (host := "") X hx hZ hown w Via.refl eT F (g := mkF m pc L S) rfl hd
  exact Go.by st (k T' X' e')
theorem g_alen (X : Stand p l e R s m args below meth c T locs cells slots) (hx : p.tables.exec = Jvm.exec) (hZ : Z.Warmed39 s.vm) (eT : T.heap = h) (F : ArrL Z h a ty vals) {v : Int32} (hv : v.toInt = (vals.length : Int)) (hd : decode c.code pc = .ok (.arraylength, 1)) (hq : pc + 1 = q) (k : Go p e below Φ (T.setTop (mkF m q L (.int v :: S)))) : Go p e below Φ (T.setTop (mkF m pc L (.ref a :: S))) := by
  subst hq
  obtain ⟨cl, A, e1, r⟩ := F
  have hs : cl.slots.size = vals.length := by rw [e1]; simp
  have hz : cl.slots.size.toInt32 = v := Int32.toInt_inj.mp (by rw [hs, len_toInt r]; exact hv.symm)
  refine Go.by (X.arraylength hx (cell := cl) (by rw [eT]; exact A.1) (State.isArrayOf_alike hZ.alike A.2.1) rfl rfl hd) ?_
  rw [hz]; exact k
theorem g_getF (X : Stand p l e R s m args below meth c T locs cells slots) (hx : p.tables.exec = Jvm.exec) (hZ : Z.Warmed39 s.vm) {own R0 n d : String} {index : Nat} (hown : s.vm.findClass own = some m.cls) (w : (Jvm.Cond.fieldLink own index R0 n d).before a0 Z = true) (eT : T.heap = h) (F : Fld Z h a R0 n d v) (hd : decode c.code pc = .ok (.getfield index, 3)) (hq : pc + 3 = q) (k : ∀ T', Stand p l e R s m args below meth c T' locs cells slots → T'.heap = h → Go p e below Φ (T'.setTop (mkF m q L (v :: S)))) : Go p e below Φ (T.setTop (mkF m pc L (.ref a :: S))) := by
  subst hq
  obtain ⟨T', X', e', st⟩ := getF X hx hZ hown (host := "") (Or.inl w) Via.refl eT F (g := mkF m pc L (.ref a :: S)) rfl rfl hd
  exact Go.by st (k T' X' e')
theorem g_putF (X : Stand p l e R s m args below meth c T locs cells slots) (hx : p.tables.exec = Jvm.exec) (hZ : Z.Warmed39 s.vm) {own R0 n d C : String} {index kk : Nat} {ty : FieldType} (hown : s.vm.findClass own = some m.cls) (wl : (Jvm.Cond.fieldLink own index R0 n d).before a0 Z = true) (eT : T.heap = h) (F : Fld Z h a R0 n d w) (E : Exa Z h a C) (Ly : (Jvm.Cond.lays C R0 n d).before a0 Z = true ∨ ((Jvm.Cond.laysFinal C R0 n d).before a0 Z = true ∧ own = R0 ∧ meth.name = "<init>")) (wi : (Jvm.Cond.instantiable C kk).before a0 Z = true) (hty : parseFieldDescriptor d = some ty) (hn : narrow ty v = v) (hf : fits ty v = true) (hd : decode c.code pc = .ok (.putfield index, 3)) (hq : pc + 3 = q) (k : ∀ T' h', Stand p l e R s m args below meth c T' (locs ++ [⟨a, Jvm.RoadKit.slotOf Z R0 n d⟩]) cells slots → T'.heap = h' → Wr h h' a (Jvm.RoadKit.slotOf Z R0 n d) v → Fld Z h' a R0 n d v → Go p e below Φ (T'.setTop (mkF m q L S))) : Go p e below Φ (T.setTop (mkF m pc L (v :: .ref a :: S))) := by
  subst hq
  obtain ⟨T', h', X', e', W, st⟩ := putF X hx hZ hown (host := "") (Or.inl wl) Via.refl eT F E Ly wi hty hn hf (g := mkF m pc L (v :: .ref a :: S)) rfl rfl hd
  exact Go.by st (k T' h' X' e' W (F.same W))
theorem g_newO (X : Stand p l e R s m args below meth c T locs cells slots) (hx : p.tables.exec = Jvm.exec) (hZ : Z.Warmed39 s.vm) {own C : String} {index n : Nat} (hown : s.vm.findClass own = some m.cls) (w : (Jvm.Cond.classLink own index C).before a0 Z = true) (wi : (Jvm.Cond.instantiable C n).before a0 Z = true) (wz : (Jvm.Cond.initialized C).before a0 Z = true) (eT : T.heap = h) (hd : decode c.code pc = .ok (.new index, 3)) (hq : pc + 3 = q) (hc : cells + 1 ≤ R.cells) (hl : slots + n ≤ R.slots) (k : ∀ T' h' o, Stand p l e R s m args below meth c T' locs (cells + 1) (slots + n) → T'.heap = h' → Ext h h' → o = h.size → Exa Z h' o C → (∀ {O nm d : String} {ty : FieldType}, Laid Z a0 C O nm d → parseFieldDescriptor d = some ty → Fld Z h' o O nm d (defaultValue ty)) → Go p e below Φ (T'.setTop (mkF m q L (.ref o :: S)))) : Go p e below Φ (T.setTop (mkF m pc L S)) := by
  subst hq
  obtain ⟨T', h', X', e', E, A, D, -, st⟩ := newO X hx hZ hown w wi wz eT (g := mkF m pc L S) rfl hd hc hl
  exact Go.by st (k T' h' h.size X' e' E rfl A D)
theorem g_initO (X : Stand p l e R s m args below meth c T locs cells slots) (hx : p.tables.exec = Jvm.exec) (hZ : Z.Warmed39 s.vm) {own : String} {index : Nat} (hown : s.vm.findClass own = some m.cls) (w1 : (Jvm.Cond.methodLink own index Lib.objectInit).before a0 Z = true) (w2 : (Jvm.Cond.instanceMethod Lib.objectInit).before a0 Z = true) (w3 : (Jvm.Cond.code Lib.objectInit ⟨#[0xb1]⟩ 1 none).before a0 Z = true) (eT : T.heap = h) (hsz : L.size = c.maxLocals) (hd : decode c.code pc = .ok (.invokespecial index, 3)) (hq : pc + 3 = q) (hf : 1 ≤ R.frames) {W : Nat} (hW : (S.map fun v => v.category).sum = W) (hl : W + 12 ≤ R.locals) (k : ∀ T', Stand p l e R s m args below meth c T' locs cells slots → T'.heap = h → Go p e below Φ (T'.setTop (mkF m q L S))) : Go p e below Φ (T.setTop (mkF m pc L (.ref a :: S))) := by
  subst hq
  obtain ⟨T', X', e', st⟩ := initO X hx hZ hown w1 w2 w3 eT (g := mkF m pc L (.ref a :: S)) rfl hsz rfl hd hf (W := W) (by show 2 * 0 + _ ≤ _; omega) hl
  exact Go.by st (k T' X' e')
theorem g_special (X : Stand p l e R s m args below meth c T locs cells slots) (hx : p.tables.exec = Jvm.exec) (hZ : Z.Warmed39 s.vm) {own : String} {index : Nat} {y : MethodName} {bytes : ByteArray} {maxL : Nat} (hy1 : y.name = "<init>") (hown : s.vm.findClass own = some m.cls) (w1 : (Jvm.Cond.methodLink own index y).before a0 Z = true) (w2 : (Jvm.Cond.instanceMethod y).before a0 Z = true) (w3 : (Jvm.Cond.initialized y.cls).before a0 Z = true) (w4 : (Jvm.Cond.code y bytes maxL none).before a0 Z = true) (hy : y.cls ≠ "java/lang/invoke/MethodHandle" ∧ y.cls ≠ "java/lang/invoke/VarHandle")
    {rm : Room} {as' : Array Value} {Q : Option Value → Heap → List Loc → Prop} (C : Ctr l Z y bytes maxL none rm [] as' h Q) {argsL rest : List Value} {ps : List FieldType} {rt : Option FieldType} (hpd : parseMethodDescriptor y.desc = some ⟨ps, rt⟩) (hlen : argsL.length = ps.length) (hst : S = argsL.reverse ++ .ref a :: rest) (has : (.ref a :: argsL).toArray = as') (hd : decode c.code pc = .ok (.invokespecial index, 3)) (hq : pc + 3 = q) (hsz : L.size = c.maxLocals) (eT : T.heap = h)
    (hf : rm.frames + 1 ≤ R.frames) {W : Nat} (hW : (rest.map fun v => v.category).sum = W) (hl : W + (maxL + 11) + rm.locals ≤ R.locals) (hc : cells + rm.cells ≤ R.cells) (hs : slots + rm.slots ≤ R.slots)
    (k : ∀ v T' Lc, Stand p l e R s m args below meth c T' (locs ++ Lc) (cells + rm.cells) (slots + rm.slots) → Q v T'.heap Lc → Go p e below Φ (T'.setTop (mkF m q L (v.toList ++ rest)))) : Go p e below Φ (T.setTop (mkF m pc L S)) := by
  subst hq has
  obtain ⟨v, _, ⟨T', L', k', n'⟩, -, X', ⟨Lc, hQ, l1, y1, z1⟩, st⟩ := X.specialBack hx (y := y) hy1 hown (mvT hZ w1) (mvT hZ w2) (mvT hZ w4) hy (backOf (W := W) C hZ w4 w3 hf hl) (g := mkF m pc L S) rfl hsz (Steps.refl _) (a := a) (argsL := argsL) (rest := rest) (lenOf hpd hlen) hst (by show 2 * 0 + _ ≤ _; omega) hd (fun _ _ => ⟨rfl, eT, hc, hs⟩)
  dsimp only [Pt.U, Pt.locs, Pt.cells, Pt.slots] at X' l1 y1 z1 st hQ
  subst l1 y1 z1
  exact Go.by (fun _ r => st.trans r) (k v T' Lc X' hQ)
theorem g_virtual (X : Stand p l e R s m args below meth c T locs cells slots) (hx : p.tables.exec = Jvm.exec) (hZ : Z.Warmed39 s.vm) {own C0 : String} {index : Nat} {y : MethodName} {bytes : ByteArray} {maxL : Nat} {ret : Option FieldType} (hown : s.vm.findClass own = some m.cls) (w1 : (Jvm.Cond.methodLink own index y).before a0 Z = true) (w2 : (Jvm.Cond.declares y).before a0 Z = true) (w3 : (Jvm.Cond.selects C0 y y).before a0 Z = true) (w4 : (Jvm.Cond.instanceMethod y).before a0 Z = true) (w5 : (Jvm.Cond.initialized y.cls).before a0 Z = true) (w6 : (Jvm.Cond.code y bytes maxL ret).before a0 Z = true) (hy : y.cls ≠ "java/lang/invoke/MethodHandle" ∧ y.cls ≠ "java/lang/invoke/VarHandle")
    {rm : Room} {as' : Array Value} {Q : Option Value → Heap → List Loc → Prop} (C : Ctr l Z y bytes maxL ret rm [] as' h Q) (Ex : Exa Z h a C0) {argsL rest : List Value} {ps : List FieldType} {rt : Option FieldType} (hpd : parseMethodDescriptor y.desc = some ⟨ps, rt⟩) (hlen : argsL.length = ps.length) (hst : S = argsL.reverse ++ .ref a :: rest) (has : (.ref a :: argsL).toArray = as') (hd : decode c.code pc = .ok (.invokevirtual index, 3)) (hq : pc + 3 = q) (hsz : L.size = c.maxLocals) (eT : T.heap = h)
    (hf : rm.frames + 1 ≤ R.frames) {W : Nat} (hW : (rest.map fun v => v.category).sum = W) (hl : W + (maxL + 11) + rm.locals ≤ R.locals) (hc : cells + rm.cells ≤ R.cells) (hs : slots + rm.slots ≤ R.slots)
    (k : ∀ v T' Lc, Stand p l e R s m args below meth c T' (locs ++ Lc) (cells + rm.cells) (slots + rm.slots) → Q v T'.heap Lc → Go p e below Φ (T'.setTop (mkF m q L (v.toList ++ rest)))) : Go p e below Φ (T.setTop (mkF m pc L S)) := by
  subst hq has
  obtain ⟨cq, kq, qa, qb, qc⟩ := isOf hZ eT Ex
  obtain ⟨v, _, ⟨T', L', k', n'⟩, -, X', ⟨Lc, hQ, l1, y1, z1⟩, st⟩ := X.virtualBack hx (y := y) (z := y) hown (mvT hZ w1) (mvT hZ w2) (notFace_of_selects (args := #[]) (mvT hZ w3)) (mvT hZ w3) (mvT hZ w4) hy (backOf (W := W) C hZ w6 w5 hf hl) qa qc (g := mkF m pc L S) rfl hsz (Steps.refl _) (argsL := argsL) (rest := rest) (lenOf hpd hlen) hst (by show 2 * 0 + _ ≤ _; omega) hd (fun _ _ => ⟨rfl, eT, hc, hs⟩)
  dsimp only [Pt.U, Pt.locs, Pt.cells, Pt.slots] at X' l1 y1 z1 st hQ
  subst l1 y1 z1
  exact Go.by (fun _ r => st.trans r) (k v T' Lc X' hQ)
theorem g_private (X : Stand p l e R s m args below meth c T locs cells slots) (hx : p.tables.exec = Jvm.exec) (hZ : Z.Warmed39 s.vm) {own : String} {index kI : Nat} {y : MethodName} {bytes : ByteArray} {maxL : Nat} {ret : Option FieldType} (hown : s.vm.findClass own = some m.cls) (w1 : (Jvm.Cond.methodLink own index y).before a0 Z = true) (w2 : (Jvm.Cond.instanceMethod y).before a0 Z = true) (w3 : (Jvm.Cond.privateMethod y).before a0 Z = true) (w4 : (Jvm.Cond.instantiable y.cls kI).before a0 Z = true) (w5 : (Jvm.Cond.initialized y.cls).before a0 Z = true) (w6 : (Jvm.Cond.code y bytes maxL ret).before a0 Z = true) (hy : y.cls ≠ "java/lang/invoke/MethodHandle" ∧ y.cls ≠ "java/lang/invoke/VarHandle")
    {rm : Room} {as' : Array Value} {Q : Option Value → Heap → List Loc → Prop} (C : Ctr l Z y bytes maxL ret rm [] as' h Q) (Ex : Exa Z h a y.cls) {argsL rest : List Value} {ps : List FieldType} {rt : Option FieldType} (hpd : parseMethodDescriptor y.desc = some ⟨ps, rt⟩) (hlen : argsL.length = ps.length) (hst : S = argsL.reverse ++ .ref a :: rest) (has : (.ref a :: argsL).toArray = as') (hd : decode c.code pc = .ok (.invokevirtual index, 3)) (hq : pc + 3 = q) (hsz : L.size = c.maxLocals) (eT : T.heap = h)
    (hf : rm.frames + 1 ≤ R.frames) {W : Nat} (hW : (rest.map fun v => v.category).sum = W) (hl : W + (maxL + 11) + rm.locals ≤ R.locals) (hc : cells + rm.cells ≤ R.cells) (hs : slots + rm.slots ≤ R.slots)
    (k : ∀ v T' Lc, Stand p l e R s m args below meth c T' (locs ++ Lc) (cells + rm.cells) (slots + rm.slots) → Q v T'.heap Lc → Go p e below Φ (T'.setTop (mkF m q L (v.toList ++ rest)))) : Go p e below Φ (T.setTop (mkF m pc L S)) := by
  subst hq has
  obtain ⟨cq, q1, q2⟩ := Ex.cell
  have hp : s.PrivateAt y := Cond.privateMethod_at (mvP hZ w3 (args := args))
  obtain ⟨c1, k1, i1, i2, i3, i4, -⟩ := Cond.instantiable_spec (mvT (args := args) hZ w4)
  have hsel : (Jvm.Cond.selects y.cls y y).before args s = true := selects_self_of_private i1 i2 (Bool.or_eq_false_iff.mp i4).1 hp (mvT hZ w2) hy
  obtain ⟨v, _, ⟨T', L', k', n'⟩, -, X', ⟨Lc, hQ, l1, y1, z1⟩, st⟩ := X.privateBack hx (y := y) hown (mvT hZ w1) (mvT hZ w2) hsel hp (mvT hZ w6) hy (backOf (W := W) C hZ w6 w5 hf hl) (g := mkF m pc L S) rfl hsz (Steps.refl _) (a := a) (cell := cq) (by rw [eT]; exact q1) q2 (argsL := argsL) (rest := rest) (lenOf hpd hlen) hst (by show 2 * 0 + _ ≤ _; omega) hd (fun _ _ => ⟨rfl, eT, hc, hs⟩)
  dsimp only [Pt.U, Pt.locs, Pt.cells, Pt.slots] at X' l1 y1 z1 st hQ
  subst l1 y1 z1
  exact Go.by (fun _ r => st.trans r) (k v T' Lc X' hQ)
theorem g_acmp_eq (X : Stand p l e R s m args below meth c T locs cells slots) (hx : p.tables.exec = Jvm.exec) {o : Int} {q0 : Nat} {x y : Addr} (hd : decode c.code pc = .ok (.if_acmp .eq o, 3)) (ho : 0 ≤ (pc : Int) + o) (hq : ((pc : Int) + o).toNat = q) (hq0 : pc + 3 = q0) (k1 : x = y → Go p e below Φ (T.setTop (mkF m q L S))) (k0 : x ≠ y → Go p e below Φ (T.setTop (mkF m q0 L S))) : Go p e below Φ (T.setTop (mkF m pc L (.ref y :: .ref x :: S))) := by
  subst hq0
  by_cases hb : x = y
  · exact Go.by (fun _ => acmp X hx rfl rfl rfl (same := true) rfl hd rfl (by simp [hb]) ho (by rw [if_pos (by rfl)]; exact hq.symm)) (k1 hb)
  · exact Go.by (fun _ => acmp X hx rfl rfl rfl (same := false) rfl hd rfl (by simp [hb]) ho (by rw [if_neg (by decide)])) (k0 hb)
theorem g_acmp_ne (X : Stand p l e R s m args below meth c T locs cells slots) (hx : p.tables.exec = Jvm.exec) {o : Int} {q0 : Nat} {x y : Addr} (hd : decode c.code pc = .ok (.if_acmp .ne o, 3)) (ho : 0 ≤ (pc : Int) + o) (hq : ((pc : Int) + o).toNat = q) (hq0 : pc + 3 = q0) (k1 : x ≠ y → Go p e below Φ (T.setTop (mkF m q L S))) (k0 : x = y → Go p e below Φ (T.setTop (mkF m q0 L S))) : Go p e below Φ (T.setTop (mkF m pc L (.ref y :: .ref x :: S))) := by
  subst hq0
  by_cases hb : x = y
  · exact Go.by (fun _ => acmp X hx rfl rfl rfl (same := true) rfl hd rfl (by simp [hb]) ho (by rw [if_neg (by decide)])) (k0 hb)
  · exact Go.by (fun _ => acmp X hx rfl rfl rfl (same := false) rfl hd rfl (by simp [hb]) ho (by rw [if_pos (by rfl)]; exact hq.symm)) (k1 hb)
theorem g_ifnull_no (X : Stand p l e R s m args below meth c T locs cells slots) (hx : p.tables.exec = Jvm.exec) {o : Int} {y : Addr} (hd : decode c.code pc = .ok (.ifnull o, 3)) (hq : pc + 3 = q) (k : Go p e below Φ (T.setTop (mkF m q L S))) : Go p e below Φ (T.setTop (mkF m pc L (.ref y :: S))) := by
  subst hq; exact Go.by (fun _ => XS.ifnullNo X.here hx rfl hd rfl) k
theorem g_ifnonnull_yes (X : Stand p l e R s m args below meth c T locs cells slots) (hx : p.tables.exec = Jvm.exec) {o : Int} {y : Addr} (hd : decode c.code pc = .ok (.ifnonnull o, 3)) (ho : 0 ≤ (pc : Int) + o) (hq : ((pc : Int) + o).toNat = q) (k : Go p e below Φ (T.setTop (mkF m q L S))) : Go p e below Φ (T.setTop (mkF m pc L (.ref y :: S))) := Go.by (fun _ => XS.ifnonnullYes X.here hx rfl rfl hd rfl ho hq) k
end OwnHeap
def lbBefore (vs : List Int32) (kp kn : Int32) (i : Nat) : Prop := (vs.getD (1 + 2 * i) 0).toInt < kp.toInt ∨ ((vs.getD (1 + 2 * i) 0).toInt = kp.toInt ∧ (vs.getD (2 + 2 * i) 0).toInt < kn.toInt)
theorem own_getD {vs : List Int32} {i : Nat} (h : i < vs.length) : vs[i]? = some (vs.getD i 0) := by
  rw [List.getD_eq_getElem?_getD, List.getElem?_eq_getElem h]; rfl
def RM_rm6 : Room := ({ frames := 0, cells := 0, slots := 0, locals := 0 } : Room)
theorem d6_0 : decode prog_6_method_6_code 0 = .ok (.iconst 0, 1) := by decide +kernel
theorem d6_1 : decode prog_6_method_6_code 1 = .ok (.istore_n 3, 1) := by decide +kernel
theorem d6_2 : decode prog_6_method_6_code 2 = .ok (.aload_n 0, 1) := by decide +kernel
theorem d6_3 : decode prog_6_method_6_code 3 = .ok (.iconst 0, 1) := by decide +kernel
theorem d6_4 : decode prog_6_method_6_code 4 = .ok (.iaload, 1) := by decide +kernel
theorem d6_5 : decode prog_6_method_6_code 5 = .ok (.istore 4, 2) := by decide +kernel
theorem d6_7 : decode prog_6_method_6_code 7 = .ok (.iload_n 3, 1) := by decide +kernel
theorem d6_8 : decode prog_6_method_6_code 8 = .ok (.iload 4, 2) := by decide +kernel
theorem d6_10 : decode prog_6_method_6_code 10 = .ok (.if_icmp .ge 72, 3) := by decide +kernel
theorem d6_13 : decode prog_6_method_6_code 13 = .ok (.iload_n 3, 1) := by decide +kernel
theorem d6_14 : decode prog_6_method_6_code 14 = .ok (.iload 4, 2) := by decide +kernel
theorem d6_16 : decode prog_6_method_6_code 16 = .ok (.iadd, 1) := by decide +kernel
theorem d6_17 : decode prog_6_method_6_code 17 = .ok (.iconst 1, 1) := by decide +kernel
theorem d6_18 : decode prog_6_method_6_code 18 = .ok (.iushr, 1) := by decide +kernel
theorem d6_19 : decode prog_6_method_6_code 19 = .ok (.istore 5, 2) := by decide +kernel
theorem d6_21 : decode prog_6_method_6_code 21 = .ok (.aload_n 0, 1) := by decide +kernel
theorem d6_22 : decode prog_6_method_6_code 22 = .ok (.iconst 1, 1) := by decide +kernel
theorem d6_23 : decode prog_6_method_6_code 23 = .ok (.iconst 2, 1) := by decide +kernel
theorem d6_24 : decode prog_6_method_6_code 24 = .ok (.iload 5, 2) := by decide +kernel
theorem d6_26 : decode prog_6_method_6_code 26 = .ok (.imul, 1) := by decide +kernel
theorem d6_27 : decode prog_6_method_6_code 27 = .ok (.iadd, 1) := by decide +kernel
theorem d6_28 : decode prog_6_method_6_code 28 = .ok (.iaload, 1) := by decide +kernel
theorem d6_29 : decode prog_6_method_6_code 29 = .ok (.istore 6, 2) := by decide +kernel
theorem d6_31 : decode prog_6_method_6_code 31 = .ok (.iload 6, 2) := by decide +kernel
theorem d6_33 : decode prog_6_method_6_code 33 = .ok (.iload_n 1, 1) := by decide +kernel
theorem d6_34 : decode prog_6_method_6_code 34 = .ok (.if_icmp .lt 21, 3) := by decide +kernel
theorem d6_37 : decode prog_6_method_6_code 37 = .ok (.iload 6, 2) := by decide +kernel
theorem d6_39 : decode prog_6_method_6_code 39 = .ok (.iload_n 1, 1) := by decide +kernel
theorem d6_40 : decode prog_6_method_6_code 40 = .ok (.if_icmp .ne 19, 3) := by decide +kernel
theorem d6_43 : decode prog_6_method_6_code 43 = .ok (.aload_n 0, 1) := by decide +kernel
theorem d6_44 : decode prog_6_method_6_code 44 = .ok (.iconst 2, 1) := by decide +kernel
theorem d6_45 : decode prog_6_method_6_code 45 = .ok (.iconst 2, 1) := by decide +kernel
theorem d6_46 : decode prog_6_method_6_code 46 = .ok (.iload 5, 2) := by decide +kernel
theorem d6_48 : decode prog_6_method_6_code 48 = .ok (.imul, 1) := by decide +kernel
theorem d6_49 : decode prog_6_method_6_code 49 = .ok (.iadd, 1) := by decide +kernel
theorem d6_50 : decode prog_6_method_6_code 50 = .ok (.iaload, 1) := by decide +kernel
theorem d6_51 : decode prog_6_method_6_code 51 = .ok (.iload_n 2, 1) := by decide +kernel
theorem d6_52 : decode prog_6_method_6_code 52 = .ok (.if_icmp .ge 7, 3) := by decide +kernel
theorem d6_55 : decode prog_6_method_6_code 55 = .ok (.iconst 1, 1) := by decide +kernel
theorem d6_56 : decode prog_6_method_6_code 56 = .ok (.goto 4, 3) := by decide +kernel
theorem d6_59 : decode prog_6_method_6_code 59 = .ok (.iconst 0, 1) := by decide +kernel
theorem d6_60 : decode prog_6_method_6_code 60 = .ok (.istore 7, 2) := by decide +kernel
theorem d6_62 : decode prog_6_method_6_code 62 = .ok (.iload 7, 2) := by decide +kernel
theorem d6_64 : decode prog_6_method_6_code 64 = .ok (.ifCond .eq 11, 3) := by decide +kernel
theorem d6_67 : decode prog_6_method_6_code 67 = .ok (.iload 5, 2) := by decide +kernel
theorem d6_69 : decode prog_6_method_6_code 69 = .ok (.iconst 1, 1) := by decide +kernel
theorem d6_70 : decode prog_6_method_6_code 70 = .ok (.iadd, 1) := by decide +kernel
theorem d6_71 : decode prog_6_method_6_code 71 = .ok (.istore_n 3, 1) := by decide +kernel
theorem d6_72 : decode prog_6_method_6_code 72 = .ok (.goto 7, 3) := by decide +kernel
theorem d6_75 : decode prog_6_method_6_code 75 = .ok (.iload 5, 2) := by decide +kernel
theorem d6_77 : decode prog_6_method_6_code 77 = .ok (.istore 4, 2) := by decide +kernel
theorem d6_79 : decode prog_6_method_6_code 79 = .ok (.goto (-72), 3) := by decide +kernel
theorem d6_82 : decode prog_6_method_6_code 82 = .ok (.iload_n 3, 1) := by decide +kernel
theorem d6_83 : decode prog_6_method_6_code 83 = .ok (.ireturn, 1) := by decide +kernel
theorem ef_6 (m : MethodId) (z0 : Addr) (z1 : Int32) (z2 : Int32) : entryFrame m #[.ref z0, .int z1, .int z2] 8 = mkF m 0 #[.val (.ref z0), .val (.int z1), .val (.int z2), .unset, .unset, .unset, .unset, .unset] [] := by first | (simp [entryFrame, mkF, argsToLocals, Value.category]; done) | rfl
theorem pn_0 : plainName "com/example/revisor/revisor/PackedEdges" = true := by first | (simp [plainName, overriddenIn]; done) | decide +kernel
set_option maxRecDepth 65536 in
set_option maxHeartbeats 40000000 in
theorem rm6 (l : Launch) (Z : State) (a0 : Array Value) (hw : ∀ d ∈ tables_1, d.before a0 Z = true) (ws : List Jvm.Cond) (ed : Addr) (kp : Int32) (kn : Int32) (h0 : Heap) (n0 : Nat) (Z0 : n0 ≤ h0.size) (vs : List Int32) (A0 : IA Z h0 ed vs) (cn : Int32) (n1 : Nat) (hn0 : vs[0]? = some cn) (hc : cn.toInt = (n1 : Int)) (hlen : 1 + 2 * n1 ≤ vs.length) (hmono : ∀ i j, i ≤ j → j < n1 → lbBefore vs kp kn j → lbBefore vs kp kn i) :
    Ctr l Z (⟨"com/example/revisor/revisor/PackedEdges", "lowerBound", "([III)I"⟩ : MethodName) prog_6_method_6_code 8 (some .int) RM_rm6 ws #[.ref ed, .int kp, .int kn] h0 (IQ (fun r => ∃ k : Nat, r.toInt = (k : Int) ∧ k ≤ n1 ∧ (∀ i, i < k → lbBefore vs kp kn i) ∧ (∀ i, k ≤ i → i < n1 → ¬ lbBefore vs kp kn i)) h0) := by
  refine Ctr.of (plainFor_of_name pn_0) ?_
  intro p e s m below meth c s₁ hx hby hml hrt hlk hnm hown hZ X0 e0
  have N0 := Fr.nil n0
  refine Go.cast (ef_6 m ed kp kn) ?_
  have hvl : vs.length < 2 ^ 31 := by have := A0.len; rwa [List.length_map] at this
  have LP7 : ∀ (n : Nat)  (T : State) (X : Stand p l e RM_rm6 s m #[.ref ed, .int kp, .int kn] below meth c T [] 0 0) (eT : T.heap = h0) (low : Int32) (high : Int32) (s5 : Slot) (s6 : Slot) (s7 : Slot) (o5 : One s5) (o6 : One s6) (o7 : One s7) (hbd : 0 ≤ low.toInt ∧ low.toInt ≤ high.toInt ∧ high.toInt ≤ (n1 : Int)) (hA : ∀ i : Nat, (i : Int) < low.toInt → lbBefore vs kp kn i) (hB : ∀ i : Nat, high.toInt ≤ (i : Int) → i < n1 → ¬ lbBefore vs kp kn i) (hn : (high.toInt - low.toInt).toNat < n), Go p e below (Fin0 s RM_rm6 (IQ (fun r => ∃ k : Nat, r.toInt = (k : Int) ∧ k ≤ n1 ∧ (∀ i, i < k → lbBefore vs kp kn i) ∧ (∀ i, k ≤ i → i < n1 → ¬ lbBefore vs kp kn i)) h0)) (T.setTop (mkF m 7 #[.val (.ref ed), .val (.int kp), .val (.int kn), .val (.int low), .val (.int high), s5, s6, s7] [])) := by
    intro n
    induction n with
    | zero => intro T X eT low high s5 s6 s7 o5 o6 o7 hbd hA hB hn; exact absurd hn (Nat.not_lt_zero _)
    | succ n ih =>
      intro T X eT low high s5 s6 s7 o5 o6 o7 hbd hA hB hn
      refine g_iloadN (q := 8) X.here hx (hb hby d6_7) rfl rfl ?_
      refine g_iload (q := 10) X.here hx (hb hby d6_8) rfl rfl ?_
      refine g_icmp_ge (q := 82) (q0 := 13) X.here hx (hb hby d6_10) (by decide) (by decide) rfl ?_ ?_
      · intro c1
        refine g_iloadN (q := 83) X.here hx (hb hby d6_82) rfl rfl ?_
        exact g_ireturn X hx hlk hrt (hb hby d6_83) (by decide) (by decide) ⟨_, rfl, ⟨low.toInt.toNat, (by (try simp only [Int32.reduceToInt, Int64.reduceToInt] at hbd); (try simp only [Int32.reduceToInt, Int64.reduceToInt] at hA); (try simp only [Int32.reduceToInt, Int64.reduceToInt] at hB); (try simp only [Int32.reduceToInt, Int64.reduceToInt] at c1); (try simp only [Int32.reduceToInt, Int64.reduceToInt] at hbd); have f1 := rng32 low; (try simp only [Int32.reduceToInt, Int64.reduceToInt] at f1); have f3 := rng32 high; (try simp only [Int32.reduceToInt, Int64.reduceToInt] at f3); (try simp only [Int32.reduceToInt, Int64.reduceToInt, and_true, true_and, or_true, true_or]); (first | done | omega)), (by (try simp only [Int32.reduceToInt, Int64.reduceToInt] at hbd); (try simp only [Int32.reduceToInt, Int64.reduceToInt] at hA); (try simp only [Int32.reduceToInt, Int64.reduceToInt] at hB); (try simp only [Int32.reduceToInt, Int64.reduceToInt] at c1); (try simp only [Int32.reduceToInt, Int64.reduceToInt] at hbd); have f1 := rng32 low; (try simp only [Int32.reduceToInt, Int64.reduceToInt] at f1); have f3 := rng32 high; (try simp only [Int32.reduceToInt, Int64.reduceToInt] at f3); (try simp only [Int32.reduceToInt, Int64.reduceToInt, and_true, true_and, or_true, true_or]); (first | done | omega)), (fun i hi => hA i (by (try simp only [Int32.reduceToInt, Int64.reduceToInt] at hbd); (try simp only [Int32.reduceToInt, Int64.reduceToInt] at hA); (try simp only [Int32.reduceToInt, Int64.reduceToInt] at hB); (try simp only [Int32.reduceToInt, Int64.reduceToInt] at c1); (try simp only [Int32.reduceToInt, Int64.reduceToInt] at hbd); (try simp only [Int32.reduceToInt, Int64.reduceToInt] at hi); have f1 := rng32 low; (try simp only [Int32.reduceToInt, Int64.reduceToInt] at f1); have f3 := rng32 high; (try simp only [Int32.reduceToInt, Int64.reduceToInt] at f3); (try simp only [Int32.reduceToInt, Int64.reduceToInt, and_true, true_and, or_true, true_or]); (first | done | omega))), (fun i hi1 hi2 => hB i (by (try simp only [Int32.reduceToInt, Int64.reduceToInt] at hbd); (try simp only [Int32.reduceToInt, Int64.reduceToInt] at hA); (try simp only [Int32.reduceToInt, Int64.reduceToInt] at hB); (try simp only [Int32.reduceToInt, Int64.reduceToInt] at c1); (try simp only [Int32.reduceToInt, Int64.reduceToInt] at hbd); (try simp only [Int32.reduceToInt, Int64.reduceToInt] at hi1); have f1 := rng32 low; (try simp only [Int32.reduceToInt, Int64.reduceToInt] at f1); have f3 := rng32 high; (try simp only [Int32.reduceToInt, Int64.reduceToInt] at f3); (try simp only [Int32.reduceToInt, Int64.reduceToInt, and_true, true_and, or_true, true_or]); (first | done | omega)) hi2)⟩, eT, rfl⟩
      · intro c1
        refine g_iloadN (q := 14) X.here hx (hb hby d6_13) rfl rfl ?_
        refine g_iload (q := 16) X.here hx (hb hby d6_14) rfl rfl ?_
        refine g_iadd (q := 17) X.here hx (hb hby d6_16) rfl ?_
        refine g_iconst (q := 18) (v := (1 : Int32)) X.here hx (hb hby d6_17) rfl rfl ?_
        refine g_iushr (q := 19) X.here hx (hb hby d6_18) rfl ?_
        refine g_istore (q := 21) (L' := #[.val (.ref ed), .val (.int kp), .val (.int kn), .val (.int low), .val (.int high), .val (.int (((low + high).toUInt32 >>> ((1 : Int32) &&& 31).toUInt32).toInt32)), s6, s7]) X.here hx (hb hby d6_19) (st_one rfl o5 rfl rfl) rfl ?_
        refine g_aloadN (q := 22) X.here hx (hb hby d6_21) rfl rfl rfl ?_
        refine g_iconst (q := 23) (v := (1 : Int32)) X.here hx (hb hby d6_22) rfl rfl ?_
        refine g_iconst (q := 24) (v := (2 : Int32)) X.here hx (hb hby d6_23) rfl rfl ?_
        refine g_iload (q := 26) X.here hx (hb hby d6_24) rfl rfl ?_
        refine g_imul (q := 27) X.here hx (hb hby d6_26) rfl ?_
        refine g_iadd (q := 28) X.here hx (hb hby d6_27) rfl ?_
        refine g_iload_ (q := 29) (i := (1 + 2 * (((low + high).toUInt32 >>> ((1 : Int32) &&& 31).toUInt32).toInt32).toInt.toNat)) (v := (vs.getD (1 + 2 * (((low + high).toUInt32 >>> ((1 : Int32) &&& 31).toUInt32).toInt32).toInt.toNat) 0)) X hx hZ eT A0 (by (try simp only [Int32.reduceToInt, Int64.reduceToInt] at hbd); (try simp only [Int32.reduceToInt, Int64.reduceToInt] at hA); (try simp only [Int32.reduceToInt, Int64.reduceToInt] at hB); (try simp only [Int32.reduceToInt, Int64.reduceToInt] at c1); (try simp only [Int32.reduceToInt, Int64.reduceToInt] at hbd); (try simp only [Int32.reduceToInt, Int64.reduceToInt] at hc); (try simp only [Int32.reduceToInt, Int64.reduceToInt] at hlen); (try simp only [Int32.reduceToInt, Int64.reduceToInt] at hvl); have f1 := rng32 low; (try simp only [Int32.reduceToInt, Int64.reduceToInt] at f1); have f3 := rng32 high; (try simp only [Int32.reduceToInt, Int64.reduceToInt] at f3); have f8 := rng32 (low + high); (try simp only [Int32.reduceToInt, Int64.reduceToInt] at f8); have f9 := c_iadd low high; (try simp only [Int32.reduceToInt, Int64.reduceToInt] at f9); (try have f9e : (low + high).toInt = low.toInt + high.toInt := (by omega)); have f10 := rng32 (((low + high).toUInt32 >>> ((1 : Int32) &&& 31).toUInt32).toInt32); (try simp only [Int32.reduceToInt, Int64.reduceToInt] at f10); have f11 := c_iushr (low + high) (1 : Int32) 1 (by decide) (by decide); (try simp only [Int32.reduceToInt, Int64.reduceToInt] at f11); (try have f11e : (((low + high).toUInt32 >>> ((1 : Int32) &&& 31).toUInt32).toInt32).toInt = (low + high).toInt / 2 := (by omega)); have f12 := rng32 ((2 : Int32) * (((low + high).toUInt32 >>> ((1 : Int32) &&& 31).toUInt32).toInt32)); (try simp only [Int32.reduceToInt, Int64.reduceToInt] at f12); have f13 := c_imul (2 : Int32) (((low + high).toUInt32 >>> ((1 : Int32) &&& 31).toUInt32).toInt32); (try simp only [Int32.reduceToInt, Int64.reduceToInt] at f13); (try have f13e : ((2 : Int32) * (((low + high).toUInt32 >>> ((1 : Int32) &&& 31).toUInt32).toInt32)).toInt = (2 : Int) * (((low + high).toUInt32 >>> ((1 : Int32) &&& 31).toUInt32).toInt32).toInt := (by omega)); have f14 := rng32 ((1 : Int32) + ((2 : Int32) * (((low + high).toUInt32 >>> ((1 : Int32) &&& 31).toUInt32).toInt32))); (try simp only [Int32.reduceToInt, Int64.reduceToInt] at f14); have f15 := c_iadd (1 : Int32) ((2 : Int32) * (((low + high).toUInt32 >>> ((1 : Int32) &&& 31).toUInt32).toInt32)); (try simp only [Int32.reduceToInt, Int64.reduceToInt] at f15); (try have f15e : ((1 : Int32) + ((2 : Int32) * (((low + high).toUInt32 >>> ((1 : Int32) &&& 31).toUInt32).toInt32))).toInt = (1 : Int) + ((2 : Int32) * (((low + high).toUInt32 >>> ((1 : Int32) &&& 31).toUInt32).toInt32)).toInt := (by omega)); (try simp only [Int32.reduceToInt, Int64.reduceToInt, and_true, true_and, or_true, true_or]); (first | done | omega)) (own_getD (by (try simp only [Int32.reduceToInt, Int64.reduceToInt] at hbd); (try simp only [Int32.reduceToInt, Int64.reduceToInt] at hA); (try simp only [Int32.reduceToInt, Int64.reduceToInt] at hB); (try simp only [Int32.reduceToInt, Int64.reduceToInt] at c1); (try simp only [Int32.reduceToInt, Int64.reduceToInt] at hbd); (try simp only [Int32.reduceToInt, Int64.reduceToInt] at hc); (try simp only [Int32.reduceToInt, Int64.reduceToInt] at hlen); (try simp only [Int32.reduceToInt, Int64.reduceToInt] at hvl); have f1 := rng32 low; (try simp only [Int32.reduceToInt, Int64.reduceToInt] at f1); have f3 := rng32 high; (try simp only [Int32.reduceToInt, Int64.reduceToInt] at f3); have f8 := rng32 (low + high); (try simp only [Int32.reduceToInt, Int64.reduceToInt] at f8); have f9 := c_iadd low high; (try simp only [Int32.reduceToInt, Int64.reduceToInt] at f9); (try have f9e : (low + high).toInt = low.toInt + high.toInt := (by omega)); have f10 := rng32 (((low + high).toUInt32 >>> ((1 : Int32) &&& 31).toUInt32).toInt32); (try simp only [Int32.reduceToInt, Int64.reduceToInt] at f10); have f11 := c_iushr (low + high) (1 : Int32) 1 (by decide) (by decide); (try simp only [Int32.reduceToInt, Int64.reduceToInt] at f11); (try have f11e : (((low + high).toUInt32 >>> ((1 : Int32) &&& 31).toUInt32).toInt32).toInt = (low + high).toInt / 2 := (by omega)); have f12 := rng32 ((2 : Int32) * (((low + high).toUInt32 >>> ((1 : Int32) &&& 31).toUInt32).toInt32)); (try simp only [Int32.reduceToInt, Int64.reduceToInt] at f12); have f13 := c_imul (2 : Int32) (((low + high).toUInt32 >>> ((1 : Int32) &&& 31).toUInt32).toInt32); (try simp only [Int32.reduceToInt, Int64.reduceToInt] at f13); (try have f13e : ((2 : Int32) * (((low + high).toUInt32 >>> ((1 : Int32) &&& 31).toUInt32).toInt32)).toInt = (2 : Int) * (((low + high).toUInt32 >>> ((1 : Int32) &&& 31).toUInt32).toInt32).toInt := (by omega)); have f14 := rng32 ((1 : Int32) + ((2 : Int32) * (((low + high).toUInt32 >>> ((1 : Int32) &&& 31).toUInt32).toInt32))); (try simp only [Int32.reduceToInt, Int64.reduceToInt] at f14); have f15 := c_iadd (1 : Int32) ((2 : Int32) * (((low + high).toUInt32 >>> ((1 : Int32) &&& 31).toUInt32).toInt32)); (try simp only [Int32.reduceToInt, Int64.reduceToInt] at f15); (try have f15e : ((1 : Int32) + ((2 : Int32) * (((low + high).toUInt32 >>> ((1 : Int32) &&& 31).toUInt32).toInt32))).toInt = (1 : Int) + ((2 : Int32) * (((low + high).toUInt32 >>> ((1 : Int32) &&& 31).toUInt32).toInt32)).toInt := (by omega)); (try simp only [Int32.reduceToInt, Int64.reduceToInt, and_true, true_and, or_true, true_or]); (first | done | omega))) (hb hby d6_28) rfl ?_
        refine g_istore (q := 31) (L' := #[.val (.ref ed), .val (.int kp), .val (.int kn), .val (.int low), .val (.int high), .val (.int (((low + high).toUInt32 >>> ((1 : Int32) &&& 31).toUInt32).toInt32)), .val (.int (vs.getD (1 + 2 * (((low + high).toUInt32 >>> ((1 : Int32) &&& 31).toUInt32).toInt32).toInt.toNat) 0)), s7]) X.here hx (hb hby d6_29) (st_one rfl o6 rfl rfl) rfl ?_
        refine g_iload (q := 33) X.here hx (hb hby d6_31) rfl rfl ?_
        refine g_iloadN (q := 34) X.here hx (hb hby d6_33) rfl rfl ?_
        refine g_icmp_lt (q := 55) (q0 := 37) X.here hx (hb hby d6_34) (by decide) (by decide) rfl ?_ ?_
        · intro c2
          refine g_iconst (q := 56) (v := (1 : Int32)) X.here hx (hb hby d6_55) rfl rfl ?_
          refine g_goto (q := 60) X.here hx (hb hby d6_56) (by decide) (by decide) ?_
          refine g_istore (q := 62) (L' := #[.val (.ref ed), .val (.int kp), .val (.int kn), .val (.int low), .val (.int high), .val (.int (((low + high).toUInt32 >>> ((1 : Int32) &&& 31).toUInt32).toInt32)), .val (.int (vs.getD (1 + 2 * (((low + high).toUInt32 >>> ((1 : Int32) &&& 31).toUInt32).toInt32).toInt.toNat) 0)), .val (.int (1 : Int32))]) X.here hx (hb hby d6_60) (st_one rfl o7 rfl rfl) rfl ?_
          refine g_iload (q := 64) X.here hx (hb hby d6_62) rfl rfl ?_
          refine g_if_eq (q := 75) (q0 := 67) X.here hx (hb hby d6_64) (by decide) (by decide) rfl ?_ ?_
          · intro c3; exact absurd c3 (by decide)
          · intro c3
            refine g_iload (q := 69) X.here hx (hb hby d6_67) rfl rfl ?_
            refine g_iconst (q := 70) (v := (1 : Int32)) X.here hx (hb hby d6_69) rfl rfl ?_
            refine g_iadd (q := 71) X.here hx (hb hby d6_70) rfl ?_
            refine g_istoreN (q := 72) (L' := #[.val (.ref ed), .val (.int kp), .val (.int kn), .val (.int ((((low + high).toUInt32 >>> ((1 : Int32) &&& 31).toUInt32).toInt32) + (1 : Int32))), .val (.int high), .val (.int (((low + high).toUInt32 >>> ((1 : Int32) &&& 31).toUInt32).toInt32)), .val (.int (vs.getD (1 + 2 * (((low + high).toUInt32 >>> ((1 : Int32) &&& 31).toUInt32).toInt32).toInt.toNat) 0)), .val (.int (1 : Int32))]) X.here hx (hb hby d6_71) rfl rfl ?_
            refine g_goto (q := 79) X.here hx (hb hby d6_72) (by decide) (by decide) ?_
            refine g_goto (q := 7) X.here hx (hb hby d6_79) (by decide) (by decide) ?_
            exact ih  _ X eT ((((low + high).toUInt32 >>> ((1 : Int32) &&& 31).toUInt32).toInt32) + (1 : Int32)) high (.val (.int (((low + high).toUInt32 >>> ((1 : Int32) &&& 31).toUInt32).toInt32))) (.val (.int (vs.getD (1 + 2 * (((low + high).toUInt32 >>> ((1 : Int32) &&& 31).toUInt32).toInt32).toInt.toNat) 0))) (.val (.int (1 : Int32))) (One.val rfl) (One.val rfl) (One.val rfl) (by (try simp only [Int32.reduceToInt, Int64.reduceToInt] at hbd); (try simp only [Int32.reduceToInt, Int64.reduceToInt] at hA); (try simp only [Int32.reduceToInt, Int64.reduceToInt] at hB); (try simp only [Int32.reduceToInt, Int64.reduceToInt] at c1); (try simp only [Int32.reduceToInt, Int64.reduceToInt] at c2); (try simp only [Int32.reduceToInt, Int64.reduceToInt] at c3); (try simp only [Int32.reduceToInt, Int64.reduceToInt] at hbd); (try simp only [Int32.reduceToInt, Int64.reduceToInt] at hc); have f1 := rng32 low; (try simp only [Int32.reduceToInt, Int64.reduceToInt] at f1); have f3 := rng32 high; (try simp only [Int32.reduceToInt, Int64.reduceToInt] at f3); have f5 := rng32 kp; (try simp only [Int32.reduceToInt, Int64.reduceToInt] at f5); have f7 := rng32 (vs.getD (1 + 2 * (((low + high).toUInt32 >>> ((1 : Int32) &&& 31).toUInt32).toInt32).toInt.toNat) 0); (try simp only [Int32.reduceToInt, Int64.reduceToInt] at f7); have f11 := rng32 (low + high); (try simp only [Int32.reduceToInt, Int64.reduceToInt] at f11); have f12 := c_iadd low high; (try simp only [Int32.reduceToInt, Int64.reduceToInt] at f12); (try have f12e : (low + high).toInt = low.toInt + high.toInt := (by omega)); have f13 := rng32 (((low + high).toUInt32 >>> ((1 : Int32) &&& 31).toUInt32).toInt32); (try simp only [Int32.reduceToInt, Int64.reduceToInt] at f13); have f14 := c_iushr (low + high) (1 : Int32) 1 (by decide) (by decide); (try simp only [Int32.reduceToInt, Int64.reduceToInt] at f14); (try have f14e : (((low + high).toUInt32 >>> ((1 : Int32) &&& 31).toUInt32).toInt32).toInt = (low + high).toInt / 2 := (by omega)); have f15 := rng32 ((((low + high).toUInt32 >>> ((1 : Int32) &&& 31).toUInt32).toInt32) + (1 : Int32)); (try simp only [Int32.reduceToInt, Int64.reduceToInt] at f15); have f16 := c_iadd (((low + high).toUInt32 >>> ((1 : Int32) &&& 31).toUInt32).toInt32) (1 : Int32); (try simp only [Int32.reduceToInt, Int64.reduceToInt] at f16); (try have f16e : ((((low + high).toUInt32 >>> ((1 : Int32) &&& 31).toUInt32).toInt32) + (1 : Int32)).toInt = (((low + high).toUInt32 >>> ((1 : Int32) &&& 31).toUInt32).toInt32).toInt + (1 : Int) := (by omega)); (try simp only [Int32.reduceToInt, Int64.reduceToInt, and_true, true_and, or_true, true_or]); (first | done | omega)) (fun i hi => by have hmm := hmono i ((((low + high).toUInt32 >>> ((1 : Int32) &&& 31).toUInt32).toInt32).toInt.toNat); have hbm : lbBefore vs kp kn ((((low + high).toUInt32 >>> ((1 : Int32) &&& 31).toUInt32).toInt32).toInt.toNat) := (by unfold lbBefore; (try simp only [Int32.reduceToInt, Int64.reduceToInt] at hbd); (try simp only [Int32.reduceToInt, Int64.reduceToInt] at hA); (try simp only [Int32.reduceToInt, Int64.reduceToInt] at hB); (try simp only [Int32.reduceToInt, Int64.reduceToInt] at c1); (try simp only [Int32.reduceToInt, Int64.reduceToInt] at c2); (try simp only [Int32.reduceToInt, Int64.reduceToInt] at c3); (try simp only [Int32.reduceToInt, Int64.reduceToInt] at hbd); (try simp only [Int32.reduceToInt, Int64.reduceToInt] at hc); have f1 := rng32 low; (try simp only [Int32.reduceToInt, Int64.reduceToInt] at f1); have f3 := rng32 high; (try simp only [Int32.reduceToInt, Int64.reduceToInt] at f3); have f5 := rng32 kp; (try simp only [Int32.reduceToInt, Int64.reduceToInt] at f5); have f7 := rng32 (vs.getD (1 + 2 * (((low + high).toUInt32 >>> ((1 : Int32) &&& 31).toUInt32).toInt32).toInt.toNat) 0); (try simp only [Int32.reduceToInt, Int64.reduceToInt] at f7); have f11 := rng32 (low + high); (try simp only [Int32.reduceToInt, Int64.reduceToInt] at f11); have f12 := c_iadd low high; (try simp only [Int32.reduceToInt, Int64.reduceToInt] at f12); (try have f12e : (low + high).toInt = low.toInt + high.toInt := (by omega)); have f13 := rng32 (((low + high).toUInt32 >>> ((1 : Int32) &&& 31).toUInt32).toInt32); (try simp only [Int32.reduceToInt, Int64.reduceToInt] at f13); have f14 := c_iushr (low + high) (1 : Int32) 1 (by decide) (by decide); (try simp only [Int32.reduceToInt, Int64.reduceToInt] at f14); (try have f14e : (((low + high).toUInt32 >>> ((1 : Int32) &&& 31).toUInt32).toInt32).toInt = (low + high).toInt / 2 := (by omega)); have f15 := rng32 ((((low + high).toUInt32 >>> ((1 : Int32) &&& 31).toUInt32).toInt32) + (1 : Int32)); (try simp only [Int32.reduceToInt, Int64.reduceToInt] at f15); have f16 := c_iadd (((low + high).toUInt32 >>> ((1 : Int32) &&& 31).toUInt32).toInt32) (1 : Int32); (try simp only [Int32.reduceToInt, Int64.reduceToInt] at f16); (try have f16e : ((((low + high).toUInt32 >>> ((1 : Int32) &&& 31).toUInt32).toInt32) + (1 : Int32)).toInt = (((low + high).toUInt32 >>> ((1 : Int32) &&& 31).toUInt32).toInt32).toInt + (1 : Int) := (by omega)); (try simp only [Int32.reduceToInt, Int64.reduceToInt, and_true, true_and, or_true, true_or]); (first | done | omega)); exact hmm (by (try simp only [Int32.reduceToInt, Int64.reduceToInt] at hbd); (try simp only [Int32.reduceToInt, Int64.reduceToInt] at hA); (try simp only [Int32.reduceToInt, Int64.reduceToInt] at hB); (try simp only [Int32.reduceToInt, Int64.reduceToInt] at c1); (try simp only [Int32.reduceToInt, Int64.reduceToInt] at c2); (try simp only [Int32.reduceToInt, Int64.reduceToInt] at c3); (try simp only [Int32.reduceToInt, Int64.reduceToInt] at hbd); (try simp only [Int32.reduceToInt, Int64.reduceToInt] at hc); (try simp only [Int32.reduceToInt, Int64.reduceToInt] at hi); have f1 := rng32 low; (try simp only [Int32.reduceToInt, Int64.reduceToInt] at f1); have f3 := rng32 high; (try simp only [Int32.reduceToInt, Int64.reduceToInt] at f3); have f5 := rng32 kp; (try simp only [Int32.reduceToInt, Int64.reduceToInt] at f5); have f7 := rng32 (vs.getD (1 + 2 * (((low + high).toUInt32 >>> ((1 : Int32) &&& 31).toUInt32).toInt32).toInt.toNat) 0); (try simp only [Int32.reduceToInt, Int64.reduceToInt] at f7); have f11 := rng32 (low + high); (try simp only [Int32.reduceToInt, Int64.reduceToInt] at f11); have f12 := c_iadd low high; (try simp only [Int32.reduceToInt, Int64.reduceToInt] at f12); (try have f12e : (low + high).toInt = low.toInt + high.toInt := (by omega)); have f13 := rng32 (((low + high).toUInt32 >>> ((1 : Int32) &&& 31).toUInt32).toInt32); (try simp only [Int32.reduceToInt, Int64.reduceToInt] at f13); have f14 := c_iushr (low + high) (1 : Int32) 1 (by decide) (by decide); (try simp only [Int32.reduceToInt, Int64.reduceToInt] at f14); (try have f14e : (((low + high).toUInt32 >>> ((1 : Int32) &&& 31).toUInt32).toInt32).toInt = (low + high).toInt / 2 := (by omega)); have f15 := rng32 ((((low + high).toUInt32 >>> ((1 : Int32) &&& 31).toUInt32).toInt32) + (1 : Int32)); (try simp only [Int32.reduceToInt, Int64.reduceToInt] at f15); have f16 := c_iadd (((low + high).toUInt32 >>> ((1 : Int32) &&& 31).toUInt32).toInt32) (1 : Int32); (try simp only [Int32.reduceToInt, Int64.reduceToInt] at f16); (try have f16e : ((((low + high).toUInt32 >>> ((1 : Int32) &&& 31).toUInt32).toInt32) + (1 : Int32)).toInt = (((low + high).toUInt32 >>> ((1 : Int32) &&& 31).toUInt32).toInt32).toInt + (1 : Int) := (by omega)); (try simp only [Int32.reduceToInt, Int64.reduceToInt, and_true, true_and, or_true, true_or]); (first | done | omega)) (by (try simp only [Int32.reduceToInt, Int64.reduceToInt] at hbd); (try simp only [Int32.reduceToInt, Int64.reduceToInt] at hA); (try simp only [Int32.reduceToInt, Int64.reduceToInt] at hB); (try simp only [Int32.reduceToInt, Int64.reduceToInt] at c1); (try simp only [Int32.reduceToInt, Int64.reduceToInt] at c2); (try simp only [Int32.reduceToInt, Int64.reduceToInt] at c3); (try simp only [Int32.reduceToInt, Int64.reduceToInt] at hbd); (try simp only [Int32.reduceToInt, Int64.reduceToInt] at hc); have f1 := rng32 low; (try simp only [Int32.reduceToInt, Int64.reduceToInt] at f1); have f3 := rng32 high; (try simp only [Int32.reduceToInt, Int64.reduceToInt] at f3); have f5 := rng32 kp; (try simp only [Int32.reduceToInt, Int64.reduceToInt] at f5); have f7 := rng32 (vs.getD (1 + 2 * (((low + high).toUInt32 >>> ((1 : Int32) &&& 31).toUInt32).toInt32).toInt.toNat) 0); (try simp only [Int32.reduceToInt, Int64.reduceToInt] at f7); have f11 := rng32 (low + high); (try simp only [Int32.reduceToInt, Int64.reduceToInt] at f11); have f12 := c_iadd low high; (try simp only [Int32.reduceToInt, Int64.reduceToInt] at f12); (try have f12e : (low + high).toInt = low.toInt + high.toInt := (by omega)); have f13 := rng32 (((low + high).toUInt32 >>> ((1 : Int32) &&& 31).toUInt32).toInt32); (try simp only [Int32.reduceToInt, Int64.reduceToInt] at f13); have f14 := c_iushr (low + high) (1 : Int32) 1 (by decide) (by decide); (try simp only [Int32.reduceToInt, Int64.reduceToInt] at f14); (try have f14e : (((low + high).toUInt32 >>> ((1 : Int32) &&& 31).toUInt32).toInt32).toInt = (low + high).toInt / 2 := (by omega)); have f15 := rng32 ((((low + high).toUInt32 >>> ((1 : Int32) &&& 31).toUInt32).toInt32) + (1 : Int32)); (try simp only [Int32.reduceToInt, Int64.reduceToInt] at f15); have f16 := c_iadd (((low + high).toUInt32 >>> ((1 : Int32) &&& 31).toUInt32).toInt32) (1 : Int32); (try simp only [Int32.reduceToInt, Int64.reduceToInt] at f16); (try have f16e : ((((low + high).toUInt32 >>> ((1 : Int32) &&& 31).toUInt32).toInt32) + (1 : Int32)).toInt = (((low + high).toUInt32 >>> ((1 : Int32) &&& 31).toUInt32).toInt32).toInt + (1 : Int) := (by omega)); (try simp only [Int32.reduceToInt, Int64.reduceToInt, and_true, true_and, or_true, true_or]); (first | done | omega)) hbm) hB (by (try simp only [Int32.reduceToInt, Int64.reduceToInt] at hbd); (try simp only [Int32.reduceToInt, Int64.reduceToInt] at hA); (try simp only [Int32.reduceToInt, Int64.reduceToInt] at hB); (try simp only [Int32.reduceToInt, Int64.reduceToInt] at c1); (try simp only [Int32.reduceToInt, Int64.reduceToInt] at c2); (try simp only [Int32.reduceToInt, Int64.reduceToInt] at c3); (try simp only [Int32.reduceToInt, Int64.reduceToInt] at hn); have f1 := rng32 low; (try simp only [Int32.reduceToInt, Int64.reduceToInt] at f1); have f3 := rng32 high; (try simp only [Int32.reduceToInt, Int64.reduceToInt] at f3); have f5 := rng32 kp; (try simp only [Int32.reduceToInt, Int64.reduceToInt] at f5); have f7 := rng32 (vs.getD (1 + 2 * (((low + high).toUInt32 >>> ((1 : Int32) &&& 31).toUInt32).toInt32).toInt.toNat) 0); (try simp only [Int32.reduceToInt, Int64.reduceToInt] at f7); have f9 := rng32 kn; (try simp only [Int32.reduceToInt, Int64.reduceToInt] at f9); have f13 := rng32 (low + high); (try simp only [Int32.reduceToInt, Int64.reduceToInt] at f13); have f14 := c_iadd low high; (try simp only [Int32.reduceToInt, Int64.reduceToInt] at f14); (try have f14e : (low + high).toInt = low.toInt + high.toInt := (by omega)); have f15 := rng32 (((low + high).toUInt32 >>> ((1 : Int32) &&& 31).toUInt32).toInt32); (try simp only [Int32.reduceToInt, Int64.reduceToInt] at f15); have f16 := c_iushr (low + high) (1 : Int32) 1 (by decide) (by decide); (try simp only [Int32.reduceToInt, Int64.reduceToInt] at f16); (try have f16e : (((low + high).toUInt32 >>> ((1 : Int32) &&& 31).toUInt32).toInt32).toInt = (low + high).toInt / 2 := (by omega)); have f17 := rng32 ((((low + high).toUInt32 >>> ((1 : Int32) &&& 31).toUInt32).toInt32) + (1 : Int32)); (try simp only [Int32.reduceToInt, Int64.reduceToInt] at f17); have f18 := c_iadd (((low + high).toUInt32 >>> ((1 : Int32) &&& 31).toUInt32).toInt32) (1 : Int32); (try simp only [Int32.reduceToInt, Int64.reduceToInt] at f18); (try have f18e : ((((low + high).toUInt32 >>> ((1 : Int32) &&& 31).toUInt32).toInt32) + (1 : Int32)).toInt = (((low + high).toUInt32 >>> ((1 : Int32) &&& 31).toUInt32).toInt32).toInt + (1 : Int) := (by omega)); (try simp only [Int32.reduceToInt, Int64.reduceToInt, and_true, true_and, or_true, true_or]); (first | done | omega))
        · intro c2
          refine g_iload (q := 39) X.here hx (hb hby d6_37) rfl rfl ?_
          refine g_iloadN (q := 40) X.here hx (hb hby d6_39) rfl rfl ?_
          refine g_icmp_ne (q := 59) (q0 := 43) X.here hx (hb hby d6_40) (by decide) (by decide) rfl ?_ ?_
          · intro c4
            refine g_iconst (q := 60) (v := (0 : Int32)) X.here hx (hb hby d6_59) rfl rfl ?_
            refine g_istore (q := 62) (L' := #[.val (.ref ed), .val (.int kp), .val (.int kn), .val (.int low), .val (.int high), .val (.int (((low + high).toUInt32 >>> ((1 : Int32) &&& 31).toUInt32).toInt32)), .val (.int (vs.getD (1 + 2 * (((low + high).toUInt32 >>> ((1 : Int32) &&& 31).toUInt32).toInt32).toInt.toNat) 0)), .val (.int (0 : Int32))]) X.here hx (hb hby d6_60) (st_one rfl o7 rfl rfl) rfl ?_
            refine g_iload (q := 64) X.here hx (hb hby d6_62) rfl rfl ?_
            refine g_if_eq (q := 75) (q0 := 67) X.here hx (hb hby d6_64) (by decide) (by decide) rfl ?_ ?_
            · intro c5
              refine g_iload (q := 77) X.here hx (hb hby d6_75) rfl rfl ?_
              refine g_istore (q := 79) (L' := #[.val (.ref ed), .val (.int kp), .val (.int kn), .val (.int low), .val (.int (((low + high).toUInt32 >>> ((1 : Int32) &&& 31).toUInt32).toInt32)), .val (.int (((low + high).toUInt32 >>> ((1 : Int32) &&& 31).toUInt32).toInt32)), .val (.int (vs.getD (1 + 2 * (((low + high).toUInt32 >>> ((1 : Int32) &&& 31).toUInt32).toInt32).toInt.toNat) 0)), .val (.int (0 : Int32))]) X.here hx (hb hby d6_77) rfl rfl ?_
              refine g_goto (q := 7) X.here hx (hb hby d6_79) (by decide) (by decide) ?_
              exact ih  _ X eT low (((low + high).toUInt32 >>> ((1 : Int32) &&& 31).toUInt32).toInt32) (.val (.int (((low + high).toUInt32 >>> ((1 : Int32) &&& 31).toUInt32).toInt32))) (.val (.int (vs.getD (1 + 2 * (((low + high).toUInt32 >>> ((1 : Int32) &&& 31).toUInt32).toInt32).toInt.toNat) 0))) (.val (.int (0 : Int32))) (One.val rfl) (One.val rfl) (One.val rfl) (by (try simp only [Int32.reduceToInt, Int64.reduceToInt] at hbd); (try simp only [Int32.reduceToInt, Int64.reduceToInt] at hA); (try simp only [Int32.reduceToInt, Int64.reduceToInt] at hB); (try simp only [Int32.reduceToInt, Int64.reduceToInt] at c1); (try simp only [Int32.reduceToInt, Int64.reduceToInt] at c2); (try simp only [Int32.reduceToInt, Int64.reduceToInt] at c4); (try simp only [Int32.reduceToInt, Int64.reduceToInt] at c5); (try simp only [Int32.reduceToInt, Int64.reduceToInt] at hbd); (try simp only [Int32.reduceToInt, Int64.reduceToInt] at hc); have f1 := rng32 low; (try simp only [Int32.reduceToInt, Int64.reduceToInt] at f1); have f3 := rng32 high; (try simp only [Int32.reduceToInt, Int64.reduceToInt] at f3); have f5 := rng32 kp; (try simp only [Int32.reduceToInt, Int64.reduceToInt] at f5); have f7 := rng32 (vs.getD (1 + 2 * (((low + high).toUInt32 >>> ((1 : Int32) &&& 31).toUInt32).toInt32).toInt.toNat) 0); (try simp only [Int32.reduceToInt, Int64.reduceToInt] at f7); have f10 := rng32 (low + high); (try simp only [Int32.reduceToInt, Int64.reduceToInt] at f10); have f11 := c_iadd low high; (try simp only [Int32.reduceToInt, Int64.reduceToInt] at f11); (try have f11e : (low + high).toInt = low.toInt + high.toInt := (by omega)); have f12 := rng32 (((low + high).toUInt32 >>> ((1 : Int32) &&& 31).toUInt32).toInt32); (try simp only [Int32.reduceToInt, Int64.reduceToInt] at f12); have f13 := c_iushr (low + high) (1 : Int32) 1 (by decide) (by decide); (try simp only [Int32.reduceToInt, Int64.reduceToInt] at f13); (try have f13e : (((low + high).toUInt32 >>> ((1 : Int32) &&& 31).toUInt32).toInt32).toInt = (low + high).toInt / 2 := (by omega)); (try simp only [Int32.reduceToInt, Int64.reduceToInt, and_true, true_and, or_true, true_or]); (first | done | omega)) hA (fun i hi1 hi2 hbb => by have hmm := hmono ((((low + high).toUInt32 >>> ((1 : Int32) &&& 31).toUInt32).toInt32).toInt.toNat) i (by (try simp only [Int32.reduceToInt, Int64.reduceToInt] at hbd); (try simp only [Int32.reduceToInt, Int64.reduceToInt] at hA); (try simp only [Int32.reduceToInt, Int64.reduceToInt] at hB); (try simp only [Int32.reduceToInt, Int64.reduceToInt] at c1); (try simp only [Int32.reduceToInt, Int64.reduceToInt] at c2); (try simp only [Int32.reduceToInt, Int64.reduceToInt] at c4); (try simp only [Int32.reduceToInt, Int64.reduceToInt] at c5); (try simp only [Int32.reduceToInt, Int64.reduceToInt] at hbd); (try simp only [Int32.reduceToInt, Int64.reduceToInt] at hc); (try simp only [Int32.reduceToInt, Int64.reduceToInt] at hi1); have f1 := rng32 low; (try simp only [Int32.reduceToInt, Int64.reduceToInt] at f1); have f3 := rng32 high; (try simp only [Int32.reduceToInt, Int64.reduceToInt] at f3); have f5 := rng32 kp; (try simp only [Int32.reduceToInt, Int64.reduceToInt] at f5); have f7 := rng32 (vs.getD (1 + 2 * (((low + high).toUInt32 >>> ((1 : Int32) &&& 31).toUInt32).toInt32).toInt.toNat) 0); (try simp only [Int32.reduceToInt, Int64.reduceToInt] at f7); have f10 := rng32 (low + high); (try simp only [Int32.reduceToInt, Int64.reduceToInt] at f10); have f11 := c_iadd low high; (try simp only [Int32.reduceToInt, Int64.reduceToInt] at f11); (try have f11e : (low + high).toInt = low.toInt + high.toInt := (by omega)); have f12 := rng32 (((low + high).toUInt32 >>> ((1 : Int32) &&& 31).toUInt32).toInt32); (try simp only [Int32.reduceToInt, Int64.reduceToInt] at f12); have f13 := c_iushr (low + high) (1 : Int32) 1 (by decide) (by decide); (try simp only [Int32.reduceToInt, Int64.reduceToInt] at f13); (try have f13e : (((low + high).toUInt32 >>> ((1 : Int32) &&& 31).toUInt32).toInt32).toInt = (low + high).toInt / 2 := (by omega)); (try simp only [Int32.reduceToInt, Int64.reduceToInt, and_true, true_and, or_true, true_or]); (first | done | omega)) hi2 hbb; unfold lbBefore at hmm; (try simp only [Int32.reduceToInt, Int64.reduceToInt] at hbd); (try simp only [Int32.reduceToInt, Int64.reduceToInt] at hA); (try simp only [Int32.reduceToInt, Int64.reduceToInt] at hB); (try simp only [Int32.reduceToInt, Int64.reduceToInt] at c1); (try simp only [Int32.reduceToInt, Int64.reduceToInt] at c2); (try simp only [Int32.reduceToInt, Int64.reduceToInt] at c4); (try simp only [Int32.reduceToInt, Int64.reduceToInt] at c5); (try simp only [Int32.reduceToInt, Int64.reduceToInt] at hbd); (try simp only [Int32.reduceToInt, Int64.reduceToInt] at hc); (try simp only [Int32.reduceToInt, Int64.reduceToInt] at hmm); have f1 := rng32 low; (try simp only [Int32.reduceToInt, Int64.reduceToInt] at f1); have f3 := rng32 high; (try simp only [Int32.reduceToInt, Int64.reduceToInt] at f3); have f5 := rng32 kp; (try simp only [Int32.reduceToInt, Int64.reduceToInt] at f5); have f7 := rng32 (vs.getD (1 + 2 * (((low + high).toUInt32 >>> ((1 : Int32) &&& 31).toUInt32).toInt32).toInt.toNat) 0); (try simp only [Int32.reduceToInt, Int64.reduceToInt] at f7); have f10 := rng32 (low + high); (try simp only [Int32.reduceToInt, Int64.reduceToInt] at f10); have f11 := c_iadd low high; (try simp only [Int32.reduceToInt, Int64.reduceToInt] at f11); (try have f11e : (low + high).toInt = low.toInt + high.toInt := (by omega)); have f12 := rng32 (((low + high).toUInt32 >>> ((1 : Int32) &&& 31).toUInt32).toInt32); (try simp only [Int32.reduceToInt, Int64.reduceToInt] at f12); have f13 := c_iushr (low + high) (1 : Int32) 1 (by decide) (by decide); (try simp only [Int32.reduceToInt, Int64.reduceToInt] at f13); (try have f13e : (((low + high).toUInt32 >>> ((1 : Int32) &&& 31).toUInt32).toInt32).toInt = (low + high).toInt / 2 := (by omega)); (try simp only [Int32.reduceToInt, Int64.reduceToInt, and_true, true_and, or_true, true_or]); (first | done | omega)) (by (try simp only [Int32.reduceToInt, Int64.reduceToInt] at hbd); (try simp only [Int32.reduceToInt, Int64.reduceToInt] at hA); (try simp only [Int32.reduceToInt, Int64.reduceToInt] at hB); (try simp only [Int32.reduceToInt, Int64.reduceToInt] at c1); (try simp only [Int32.reduceToInt, Int64.reduceToInt] at c2); (try simp only [Int32.reduceToInt, Int64.reduceToInt] at c4); (try simp only [Int32.reduceToInt, Int64.reduceToInt] at c5); (try simp only [Int32.reduceToInt, Int64.reduceToInt] at hn); have f1 := rng32 low; (try simp only [Int32.reduceToInt, Int64.reduceToInt] at f1); have f3 := rng32 high; (try simp only [Int32.reduceToInt, Int64.reduceToInt] at f3); have f5 := rng32 kp; (try simp only [Int32.reduceToInt, Int64.reduceToInt] at f5); have f7 := rng32 (vs.getD (1 + 2 * (((low + high).toUInt32 >>> ((1 : Int32) &&& 31).toUInt32).toInt32).toInt.toNat) 0); (try simp only [Int32.reduceToInt, Int64.reduceToInt] at f7); have f9 := rng32 kn; (try simp only [Int32.reduceToInt, Int64.reduceToInt] at f9); have f12 := rng32 (low + high); (try simp only [Int32.reduceToInt, Int64.reduceToInt] at f12); have f13 := c_iadd low high; (try simp only [Int32.reduceToInt, Int64.reduceToInt] at f13); (try have f13e : (low + high).toInt = low.toInt + high.toInt := (by omega)); have f14 := rng32 (((low + high).toUInt32 >>> ((1 : Int32) &&& 31).toUInt32).toInt32); (try simp only [Int32.reduceToInt, Int64.reduceToInt] at f14); have f15 := c_iushr (low + high) (1 : Int32) 1 (by decide) (by decide); (try simp only [Int32.reduceToInt, Int64.reduceToInt] at f15); (try have f15e : (((low + high).toUInt32 >>> ((1 : Int32) &&& 31).toUInt32).toInt32).toInt = (low + high).toInt / 2 := (by omega)); (try simp only [Int32.reduceToInt, Int64.reduceToInt, and_true, true_and, or_true, true_or]); (first | done | omega))
            · intro c5; exact absurd c5 (by decide)
          · intro c4
            refine g_aloadN (q := 44) X.here hx (hb hby d6_43) rfl rfl rfl ?_
            refine g_iconst (q := 45) (v := (2 : Int32)) X.here hx (hb hby d6_44) rfl rfl ?_
            refine g_iconst (q := 46) (v := (2 : Int32)) X.here hx (hb hby d6_45) rfl rfl ?_
            refine g_iload (q := 48) X.here hx (hb hby d6_46) rfl rfl ?_
            refine g_imul (q := 49) X.here hx (hb hby d6_48) rfl ?_
            refine g_iadd (q := 50) X.here hx (hb hby d6_49) rfl ?_
            refine g_iload_ (q := 51) (i := (2 + 2 * (((low + high).toUInt32 >>> ((1 : Int32) &&& 31).toUInt32).toInt32).toInt.toNat)) (v := (vs.getD (2 + 2 * (((low + high).toUInt32 >>> ((1 : Int32) &&& 31).toUInt32).toInt32).toInt.toNat) 0)) X hx hZ eT A0 (by (try simp only [Int32.reduceToInt, Int64.reduceToInt] at hbd); (try simp only [Int32.reduceToInt, Int64.reduceToInt] at hA); (try simp only [Int32.reduceToInt, Int64.reduceToInt] at hB); (try simp only [Int32.reduceToInt, Int64.reduceToInt] at c1); (try simp only [Int32.reduceToInt, Int64.reduceToInt] at c2); (try simp only [Int32.reduceToInt, Int64.reduceToInt] at c4); (try simp only [Int32.reduceToInt, Int64.reduceToInt] at hbd); (try simp only [Int32.reduceToInt, Int64.reduceToInt] at hc); (try simp only [Int32.reduceToInt, Int64.reduceToInt] at hlen); (try simp only [Int32.reduceToInt, Int64.reduceToInt] at hvl); have f1 := rng32 low; (try simp only [Int32.reduceToInt, Int64.reduceToInt] at f1); have f3 := rng32 high; (try simp only [Int32.reduceToInt, Int64.reduceToInt] at f3); have f5 := rng32 kp; (try simp only [Int32.reduceToInt, Int64.reduceToInt] at f5); have f7 := rng32 (vs.getD (1 + 2 * (((low + high).toUInt32 >>> ((1 : Int32) &&& 31).toUInt32).toInt32).toInt.toNat) 0); (try simp only [Int32.reduceToInt, Int64.reduceToInt] at f7); have f12 := rng32 (low + high); (try simp only [Int32.reduceToInt, Int64.reduceToInt] at f12); have f13 := c_iadd low high; (try simp only [Int32.reduceToInt, Int64.reduceToInt] at f13); (try have f13e : (low + high).toInt = low.toInt + high.toInt := (by omega)); have f14 := rng32 (((low + high).toUInt32 >>> ((1 : Int32) &&& 31).toUInt32).toInt32); (try simp only [Int32.reduceToInt, Int64.reduceToInt] at f14); have f15 := c_iushr (low + high) (1 : Int32) 1 (by decide) (by decide); (try simp only [Int32.reduceToInt, Int64.reduceToInt] at f15); (try have f15e : (((low + high).toUInt32 >>> ((1 : Int32) &&& 31).toUInt32).toInt32).toInt = (low + high).toInt / 2 := (by omega)); have f16 := rng32 ((2 : Int32) * (((low + high).toUInt32 >>> ((1 : Int32) &&& 31).toUInt32).toInt32)); (try simp only [Int32.reduceToInt, Int64.reduceToInt] at f16); have f17 := c_imul (2 : Int32) (((low + high).toUInt32 >>> ((1 : Int32) &&& 31).toUInt32).toInt32); (try simp only [Int32.reduceToInt, Int64.reduceToInt] at f17); (try have f17e : ((2 : Int32) * (((low + high).toUInt32 >>> ((1 : Int32) &&& 31).toUInt32).toInt32)).toInt = (2 : Int) * (((low + high).toUInt32 >>> ((1 : Int32) &&& 31).toUInt32).toInt32).toInt := (by omega)); have f18 := rng32 ((2 : Int32) + ((2 : Int32) * (((low + high).toUInt32 >>> ((1 : Int32) &&& 31).toUInt32).toInt32))); (try simp only [Int32.reduceToInt, Int64.reduceToInt] at f18); have f19 := c_iadd (2 : Int32) ((2 : Int32) * (((low + high).toUInt32 >>> ((1 : Int32) &&& 31).toUInt32).toInt32)); (try simp only [Int32.reduceToInt, Int64.reduceToInt] at f19); (try have f19e : ((2 : Int32) + ((2 : Int32) * (((low + high).toUInt32 >>> ((1 : Int32) &&& 31).toUInt32).toInt32))).toInt = (2 : Int) + ((2 : Int32) * (((low + high).toUInt32 >>> ((1 : Int32) &&& 31).toUInt32).toInt32)).toInt := (by omega)); (try simp only [Int32.reduceToInt, Int64.reduceToInt, and_true, true_and, or_true, true_or]); (first | done | omega)) (own_getD (by (try simp only [Int32.reduceToInt, Int64.reduceToInt] at hbd); (try simp only [Int32.reduceToInt, Int64.reduceToInt] at hA); (try simp only [Int32.reduceToInt, Int64.reduceToInt] at hB); (try simp only [Int32.reduceToInt, Int64.reduceToInt] at c1); (try simp only [Int32.reduceToInt, Int64.reduceToInt] at c2); (try simp only [Int32.reduceToInt, Int64.reduceToInt] at c4); (try simp only [Int32.reduceToInt, Int64.reduceToInt] at hbd); (try simp only [Int32.reduceToInt, Int64.reduceToInt] at hc); (try simp only [Int32.reduceToInt, Int64.reduceToInt] at hlen); (try simp only [Int32.reduceToInt, Int64.reduceToInt] at hvl); have f1 := rng32 low; (try simp only [Int32.reduceToInt, Int64.reduceToInt] at f1); have f3 := rng32 high; (try simp only [Int32.reduceToInt, Int64.reduceToInt] at f3); have f5 := rng32 kp; (try simp only [Int32.reduceToInt, Int64.reduceToInt] at f5); have f7 := rng32 (vs.getD (1 + 2 * (((low + high).toUInt32 >>> ((1 : Int32) &&& 31).toUInt32).toInt32).toInt.toNat) 0); (try simp only [Int32.reduceToInt, Int64.reduceToInt] at f7); have f12 := rng32 (low + high); (try simp only [Int32.reduceToInt, Int64.reduceToInt] at f12); have f13 := c_iadd low high; (try simp only [Int32.reduceToInt, Int64.reduceToInt] at f13); (try have f13e : (low + high).toInt = low.toInt + high.toInt := (by omega)); have f14 := rng32 (((low + high).toUInt32 >>> ((1 : Int32) &&& 31).toUInt32).toInt32); (try simp only [Int32.reduceToInt, Int64.reduceToInt] at f14); have f15 := c_iushr (low + high) (1 : Int32) 1 (by decide) (by decide); (try simp only [Int32.reduceToInt, Int64.reduceToInt] at f15); (try have f15e : (((low + high).toUInt32 >>> ((1 : Int32) &&& 31).toUInt32).toInt32).toInt = (low + high).toInt / 2 := (by omega)); have f16 := rng32 ((2 : Int32) * (((low + high).toUInt32 >>> ((1 : Int32) &&& 31).toUInt32).toInt32)); (try simp only [Int32.reduceToInt, Int64.reduceToInt] at f16); have f17 := c_imul (2 : Int32) (((low + high).toUInt32 >>> ((1 : Int32) &&& 31).toUInt32).toInt32); (try simp only [Int32.reduceToInt, Int64.reduceToInt] at f17); (try have f17e : ((2 : Int32) * (((low + high).toUInt32 >>> ((1 : Int32) &&& 31).toUInt32).toInt32)).toInt = (2 : Int) * (((low + high).toUInt32 >>> ((1 : Int32) &&& 31).toUInt32).toInt32).toInt := (by omega)); have f18 := rng32 ((2 : Int32) + ((2 : Int32) * (((low + high).toUInt32 >>> ((1 : Int32) &&& 31).toUInt32).toInt32))); (try simp only [Int32.reduceToInt, Int64.reduceToInt] at f18); have f19 := c_iadd (2 : Int32) ((2 : Int32) * (((low + high).toUInt32 >>> ((1 : Int32) &&& 31).toUInt32).toInt32)); (try simp only [Int32.reduceToInt, Int64.reduceToInt] at f19); (try have f19e : ((2 : Int32) + ((2 : Int32) * (((low + high).toUInt32 >>> ((1 : Int32) &&& 31).toUInt32).toInt32))).toInt = (2 : Int) + ((2 : Int32) * (((low + high).toUInt32 >>> ((1 : Int32) &&& 31).toUInt32).toInt32)).toInt := (by omega)); (try simp only [Int32.reduceToInt, Int64.reduceToInt, and_true, true_and, or_true, true_or]); (first | done | omega))) (hb hby d6_50) rfl ?_
            refine g_iloadN (q := 52) X.here hx (hb hby d6_51) rfl rfl ?_
            refine g_icmp_ge (q := 59) (q0 := 55) X.here hx (hb hby d6_52) (by decide) (by decide) rfl ?_ ?_
            · intro c6
              refine g_iconst (q := 60) (v := (0 : Int32)) X.here hx (hb hby d6_59) rfl rfl ?_
              refine g_istore (q := 62) (L' := #[.val (.ref ed), .val (.int kp), .val (.int kn), .val (.int low), .val (.int high), .val (.int (((low + high).toUInt32 >>> ((1 : Int32) &&& 31).toUInt32).toInt32)), .val (.int (vs.getD (1 + 2 * (((low + high).toUInt32 >>> ((1 : Int32) &&& 31).toUInt32).toInt32).toInt.toNat) 0)), .val (.int (0 : Int32))]) X.here hx (hb hby d6_60) (st_one rfl o7 rfl rfl) rfl ?_
              refine g_iload (q := 64) X.here hx (hb hby d6_62) rfl rfl ?_
              refine g_if_eq (q := 75) (q0 := 67) X.here hx (hb hby d6_64) (by decide) (by decide) rfl ?_ ?_
              · intro c7
                refine g_iload (q := 77) X.here hx (hb hby d6_75) rfl rfl ?_
                refine g_istore (q := 79) (L' := #[.val (.ref ed), .val (.int kp), .val (.int kn), .val (.int low), .val (.int (((low + high).toUInt32 >>> ((1 : Int32) &&& 31).toUInt32).toInt32)), .val (.int (((low + high).toUInt32 >>> ((1 : Int32) &&& 31).toUInt32).toInt32)), .val (.int (vs.getD (1 + 2 * (((low + high).toUInt32 >>> ((1 : Int32) &&& 31).toUInt32).toInt32).toInt.toNat) 0)), .val (.int (0 : Int32))]) X.here hx (hb hby d6_77) rfl rfl ?_
                refine g_goto (q := 7) X.here hx (hb hby d6_79) (by decide) (by decide) ?_
                exact ih  _ X eT low (((low + high).toUInt32 >>> ((1 : Int32) &&& 31).toUInt32).toInt32) (.val (.int (((low + high).toUInt32 >>> ((1 : Int32) &&& 31).toUInt32).toInt32))) (.val (.int (vs.getD (1 + 2 * (((low + high).toUInt32 >>> ((1 : Int32) &&& 31).toUInt32).toInt32).toInt.toNat) 0))) (.val (.int (0 : Int32))) (One.val rfl) (One.val rfl) (One.val rfl) (by (try simp only [Int32.reduceToInt, Int64.reduceToInt] at hbd); (try simp only [Int32.reduceToInt, Int64.reduceToInt] at hA); (try simp only [Int32.reduceToInt, Int64.reduceToInt] at hB); (try simp only [Int32.reduceToInt, Int64.reduceToInt] at c1); (try simp only [Int32.reduceToInt, Int64.reduceToInt] at c2); (try simp only [Int32.reduceToInt, Int64.reduceToInt] at c4); (try simp only [Int32.reduceToInt, Int64.reduceToInt] at c6); (try simp only [Int32.reduceToInt, Int64.reduceToInt] at c7); (try simp only [Int32.reduceToInt, Int64.reduceToInt] at hbd); (try simp only [Int32.reduceToInt, Int64.reduceToInt] at hc); have f1 := rng32 low; (try simp only [Int32.reduceToInt, Int64.reduceToInt] at f1); have f3 := rng32 high; (try simp only [Int32.reduceToInt, Int64.reduceToInt] at f3); have f5 := rng32 kp; (try simp only [Int32.reduceToInt, Int64.reduceToInt] at f5); have f7 := rng32 (vs.getD (1 + 2 * (((low + high).toUInt32 >>> ((1 : Int32) &&& 31).toUInt32).toInt32).toInt.toNat) 0); (try simp only [Int32.reduceToInt, Int64.reduceToInt] at f7); have f9 := rng32 kn; (try simp only [Int32.reduceToInt, Int64.reduceToInt] at f9); have f11 := rng32 (vs.getD (2 + 2 * (((low + high).toUInt32 >>> ((1 : Int32) &&& 31).toUInt32).toInt32).toInt.toNat) 0); (try simp only [Int32.reduceToInt, Int64.reduceToInt] at f11); have f14 := rng32 (low + high); (try simp only [Int32.reduceToInt, Int64.reduceToInt] at f14); have f15 := c_iadd low high; (try simp only [Int32.reduceToInt, Int64.reduceToInt] at f15); (try have f15e : (low + high).toInt = low.toInt + high.toInt := (by omega)); have f16 := rng32 (((low + high).toUInt32 >>> ((1 : Int32) &&& 31).toUInt32).toInt32); (try simp only [Int32.reduceToInt, Int64.reduceToInt] at f16); have f17 := c_iushr (low + high) (1 : Int32) 1 (by decide) (by decide); (try simp only [Int32.reduceToInt, Int64.reduceToInt] at f17); (try have f17e : (((low + high).toUInt32 >>> ((1 : Int32) &&& 31).toUInt32).toInt32).toInt = (low + high).toInt / 2 := (by omega)); (try simp only [Int32.reduceToInt, Int64.reduceToInt, and_true, true_and, or_true, true_or]); (first | done | omega)) hA (fun i hi1 hi2 hbb => by have hmm := hmono ((((low + high).toUInt32 >>> ((1 : Int32) &&& 31).toUInt32).toInt32).toInt.toNat) i (by (try simp only [Int32.reduceToInt, Int64.reduceToInt] at hbd); (try simp only [Int32.reduceToInt, Int64.reduceToInt] at hA); (try simp only [Int32.reduceToInt, Int64.reduceToInt] at hB); (try simp only [Int32.reduceToInt, Int64.reduceToInt] at c1); (try simp only [Int32.reduceToInt, Int64.reduceToInt] at c2); (try simp only [Int32.reduceToInt, Int64.reduceToInt] at c4); (try simp only [Int32.reduceToInt, Int64.reduceToInt] at c6); (try simp only [Int32.reduceToInt, Int64.reduceToInt] at c7); (try simp only [Int32.reduceToInt, Int64.reduceToInt] at hbd); (try simp only [Int32.reduceToInt, Int64.reduceToInt] at hc); (try simp only [Int32.reduceToInt, Int64.reduceToInt] at hi1); have f1 := rng32 low; (try simp only [Int32.reduceToInt, Int64.reduceToInt] at f1); have f3 := rng32 high; (try simp only [Int32.reduceToInt, Int64.reduceToInt] at f3); have f5 := rng32 kp; (try simp only [Int32.reduceToInt, Int64.reduceToInt] at f5); have f7 := rng32 (vs.getD (1 + 2 * (((low + high).toUInt32 >>> ((1 : Int32) &&& 31).toUInt32).toInt32).toInt.toNat) 0); (try simp only [Int32.reduceToInt, Int64.reduceToInt] at f7); have f9 := rng32 kn; (try simp only [Int32.reduceToInt, Int64.reduceToInt] at f9); have f11 := rng32 (vs.getD (2 + 2 * (((low + high).toUInt32 >>> ((1 : Int32) &&& 31).toUInt32).toInt32).toInt.toNat) 0); (try simp only [Int32.reduceToInt, Int64.reduceToInt] at f11); have f14 := rng32 (low + high); (try simp only [Int32.reduceToInt, Int64.reduceToInt] at f14); have f15 := c_iadd low high; (try simp only [Int32.reduceToInt, Int64.reduceToInt] at f15); (try have f15e : (low + high).toInt = low.toInt + high.toInt := (by omega)); have f16 := rng32 (((low + high).toUInt32 >>> ((1 : Int32) &&& 31).toUInt32).toInt32); (try simp only [Int32.reduceToInt, Int64.reduceToInt] at f16); have f17 := c_iushr (low + high) (1 : Int32) 1 (by decide) (by decide); (try simp only [Int32.reduceToInt, Int64.reduceToInt] at f17); (try have f17e : (((low + high).toUInt32 >>> ((1 : Int32) &&& 31).toUInt32).toInt32).toInt = (low + high).toInt / 2 := (by omega)); (try simp only [Int32.reduceToInt, Int64.reduceToInt, and_true, true_and, or_true, true_or]); (first | done | omega)) hi2 hbb; unfold lbBefore at hmm; (try simp only [Int32.reduceToInt, Int64.reduceToInt] at hbd); (try simp only [Int32.reduceToInt, Int64.reduceToInt] at hA); (try simp only [Int32.reduceToInt, Int64.reduceToInt] at hB); (try simp only [Int32.reduceToInt, Int64.reduceToInt] at c1); (try simp only [Int32.reduceToInt, Int64.reduceToInt] at c2); (try simp only [Int32.reduceToInt, Int64.reduceToInt] at c4); (try simp only [Int32.reduceToInt, Int64.reduceToInt] at c6); (try simp only [Int32.reduceToInt, Int64.reduceToInt] at c7); (try simp only [Int32.reduceToInt, Int64.reduceToInt] at hbd); (try simp only [Int32.reduceToInt, Int64.reduceToInt] at hc); (try simp only [Int32.reduceToInt, Int64.reduceToInt] at hmm); have f1 := rng32 low; (try simp only [Int32.reduceToInt, Int64.reduceToInt] at f1); have f3 := rng32 high; (try simp only [Int32.reduceToInt, Int64.reduceToInt] at f3); have f5 := rng32 kp; (try simp only [Int32.reduceToInt, Int64.reduceToInt] at f5); have f7 := rng32 (vs.getD (1 + 2 * (((low + high).toUInt32 >>> ((1 : Int32) &&& 31).toUInt32).toInt32).toInt.toNat) 0); (try simp only [Int32.reduceToInt, Int64.reduceToInt] at f7); have f9 := rng32 kn; (try simp only [Int32.reduceToInt, Int64.reduceToInt] at f9); have f11 := rng32 (vs.getD (2 + 2 * (((low + high).toUInt32 >>> ((1 : Int32) &&& 31).toUInt32).toInt32).toInt.toNat) 0); (try simp only [Int32.reduceToInt, Int64.reduceToInt] at f11); have f14 := rng32 (low + high); (try simp only [Int32.reduceToInt, Int64.reduceToInt] at f14); have f15 := c_iadd low high; (try simp only [Int32.reduceToInt, Int64.reduceToInt] at f15); (try have f15e : (low + high).toInt = low.toInt + high.toInt := (by omega)); have f16 := rng32 (((low + high).toUInt32 >>> ((1 : Int32) &&& 31).toUInt32).toInt32); (try simp only [Int32.reduceToInt, Int64.reduceToInt] at f16); have f17 := c_iushr (low + high) (1 : Int32) 1 (by decide) (by decide); (try simp only [Int32.reduceToInt, Int64.reduceToInt] at f17); (try have f17e : (((low + high).toUInt32 >>> ((1 : Int32) &&& 31).toUInt32).toInt32).toInt = (low + high).toInt / 2 := (by omega)); (try simp only [Int32.reduceToInt, Int64.reduceToInt, and_true, true_and, or_true, true_or]); (first | done | omega)) (by (try simp only [Int32.reduceToInt, Int64.reduceToInt] at hbd); (try simp only [Int32.reduceToInt, Int64.reduceToInt] at hA); (try simp only [Int32.reduceToInt, Int64.reduceToInt] at hB); (try simp only [Int32.reduceToInt, Int64.reduceToInt] at c1); (try simp only [Int32.reduceToInt, Int64.reduceToInt] at c2); (try simp only [Int32.reduceToInt, Int64.reduceToInt] at c4); (try simp only [Int32.reduceToInt, Int64.reduceToInt] at c6); (try simp only [Int32.reduceToInt, Int64.reduceToInt] at c7); (try simp only [Int32.reduceToInt, Int64.reduceToInt] at hn); have f1 := rng32 low; (try simp only [Int32.reduceToInt, Int64.reduceToInt] at f1); have f3 := rng32 high; (try simp only [Int32.reduceToInt, Int64.reduceToInt] at f3); have f5 := rng32 kp; (try simp only [Int32.reduceToInt, Int64.reduceToInt] at f5); have f7 := rng32 (vs.getD (1 + 2 * (((low + high).toUInt32 >>> ((1 : Int32) &&& 31).toUInt32).toInt32).toInt.toNat) 0); (try simp only [Int32.reduceToInt, Int64.reduceToInt] at f7); have f9 := rng32 kn; (try simp only [Int32.reduceToInt, Int64.reduceToInt] at f9); have f11 := rng32 (vs.getD (2 + 2 * (((low + high).toUInt32 >>> ((1 : Int32) &&& 31).toUInt32).toInt32).toInt.toNat) 0); (try simp only [Int32.reduceToInt, Int64.reduceToInt] at f11); have f14 := rng32 (low + high); (try simp only [Int32.reduceToInt, Int64.reduceToInt] at f14); have f15 := c_iadd low high; (try simp only [Int32.reduceToInt, Int64.reduceToInt] at f15); (try have f15e : (low + high).toInt = low.toInt + high.toInt := (by omega)); have f16 := rng32 (((low + high).toUInt32 >>> ((1 : Int32) &&& 31).toUInt32).toInt32); (try simp only [Int32.reduceToInt, Int64.reduceToInt] at f16); have f17 := c_iushr (low + high) (1 : Int32) 1 (by decide) (by decide); (try simp only [Int32.reduceToInt, Int64.reduceToInt] at f17); (try have f17e : (((low + high).toUInt32 >>> ((1 : Int32) &&& 31).toUInt32).toInt32).toInt = (low + high).toInt / 2 := (by omega)); (try simp only [Int32.reduceToInt, Int64.reduceToInt, and_true, true_and, or_true, true_or]); (first | done | omega))
              · intro c7; exact absurd c7 (by decide)
            · intro c6
              refine g_iconst (q := 56) (v := (1 : Int32)) X.here hx (hb hby d6_55) rfl rfl ?_
              refine g_goto (q := 60) X.here hx (hb hby d6_56) (by decide) (by decide) ?_
              refine g_istore (q := 62) (L' := #[.val (.ref ed), .val (.int kp), .val (.int kn), .val (.int low), .val (.int high), .val (.int (((low + high).toUInt32 >>> ((1 : Int32) &&& 31).toUInt32).toInt32)), .val (.int (vs.getD (1 + 2 * (((low + high).toUInt32 >>> ((1 : Int32) &&& 31).toUInt32).toInt32).toInt.toNat) 0)), .val (.int (1 : Int32))]) X.here hx (hb hby d6_60) (st_one rfl o7 rfl rfl) rfl ?_
              refine g_iload (q := 64) X.here hx (hb hby d6_62) rfl rfl ?_
              refine g_if_eq (q := 75) (q0 := 67) X.here hx (hb hby d6_64) (by decide) (by decide) rfl ?_ ?_
              · intro c8; exact absurd c8 (by decide)
              · intro c8
                refine g_iload (q := 69) X.here hx (hb hby d6_67) rfl rfl ?_
                refine g_iconst (q := 70) (v := (1 : Int32)) X.here hx (hb hby d6_69) rfl rfl ?_
                refine g_iadd (q := 71) X.here hx (hb hby d6_70) rfl ?_
                refine g_istoreN (q := 72) (L' := #[.val (.ref ed), .val (.int kp), .val (.int kn), .val (.int ((((low + high).toUInt32 >>> ((1 : Int32) &&& 31).toUInt32).toInt32) + (1 : Int32))), .val (.int high), .val (.int (((low + high).toUInt32 >>> ((1 : Int32) &&& 31).toUInt32).toInt32)), .val (.int (vs.getD (1 + 2 * (((low + high).toUInt32 >>> ((1 : Int32) &&& 31).toUInt32).toInt32).toInt.toNat) 0)), .val (.int (1 : Int32))]) X.here hx (hb hby d6_71) rfl rfl ?_
                refine g_goto (q := 79) X.here hx (hb hby d6_72) (by decide) (by decide) ?_
                refine g_goto (q := 7) X.here hx (hb hby d6_79) (by decide) (by decide) ?_
                exact ih  _ X eT ((((low + high).toUInt32 >>> ((1 : Int32) &&& 31).toUInt32).toInt32) + (1 : Int32)) high (.val (.int (((low + high).toUInt32 >>> ((1 : Int32) &&& 31).toUInt32).toInt32))) (.val (.int (vs.getD (1 + 2 * (((low + high).toUInt32 >>> ((1 : Int32) &&& 31).toUInt32).toInt32).toInt.toNat) 0))) (.val (.int (1 : Int32))) (One.val rfl) (One.val rfl) (One.val rfl) (by (try simp only [Int32.reduceToInt, Int64.reduceToInt] at hbd); (try simp only [Int32.reduceToInt, Int64.reduceToInt] at hA); (try simp only [Int32.reduceToInt, Int64.reduceToInt] at hB); (try simp only [Int32.reduceToInt, Int64.reduceToInt] at c1); (try simp only [Int32.reduceToInt, Int64.reduceToInt] at c2); (try simp only [Int32.reduceToInt, Int64.reduceToInt] at c4); (try simp only [Int32.reduceToInt, Int64.reduceToInt] at c6); (try simp only [Int32.reduceToInt, Int64.reduceToInt] at c8); (try simp only [Int32.reduceToInt, Int64.reduceToInt] at hbd); (try simp only [Int32.reduceToInt, Int64.reduceToInt] at hc); have f1 := rng32 low; (try simp only [Int32.reduceToInt, Int64.reduceToInt] at f1); have f3 := rng32 high; (try simp only [Int32.reduceToInt, Int64.reduceToInt] at f3); have f5 := rng32 kp; (try simp only [Int32.reduceToInt, Int64.reduceToInt] at f5); have f7 := rng32 (vs.getD (1 + 2 * (((low + high).toUInt32 >>> ((1 : Int32) &&& 31).toUInt32).toInt32).toInt.toNat) 0); (try simp only [Int32.reduceToInt, Int64.reduceToInt] at f7); have f9 := rng32 kn; (try simp only [Int32.reduceToInt, Int64.reduceToInt] at f9); have f11 := rng32 (vs.getD (2 + 2 * (((low + high).toUInt32 >>> ((1 : Int32) &&& 31).toUInt32).toInt32).toInt.toNat) 0); (try simp only [Int32.reduceToInt, Int64.reduceToInt] at f11); have f15 := rng32 (low + high); (try simp only [Int32.reduceToInt, Int64.reduceToInt] at f15); have f16 := c_iadd low high; (try simp only [Int32.reduceToInt, Int64.reduceToInt] at f16); (try have f16e : (low + high).toInt = low.toInt + high.toInt := (by omega)); have f17 := rng32 (((low + high).toUInt32 >>> ((1 : Int32) &&& 31).toUInt32).toInt32); (try simp only [Int32.reduceToInt, Int64.reduceToInt] at f17); have f18 := c_iushr (low + high) (1 : Int32) 1 (by decide) (by decide); (try simp only [Int32.reduceToInt, Int64.reduceToInt] at f18); (try have f18e : (((low + high).toUInt32 >>> ((1 : Int32) &&& 31).toUInt32).toInt32).toInt = (low + high).toInt / 2 := (by omega)); have f19 := rng32 ((((low + high).toUInt32 >>> ((1 : Int32) &&& 31).toUInt32).toInt32) + (1 : Int32)); (try simp only [Int32.reduceToInt, Int64.reduceToInt] at f19); have f20 := c_iadd (((low + high).toUInt32 >>> ((1 : Int32) &&& 31).toUInt32).toInt32) (1 : Int32); (try simp only [Int32.reduceToInt, Int64.reduceToInt] at f20); (try have f20e : ((((low + high).toUInt32 >>> ((1 : Int32) &&& 31).toUInt32).toInt32) + (1 : Int32)).toInt = (((low + high).toUInt32 >>> ((1 : Int32) &&& 31).toUInt32).toInt32).toInt + (1 : Int) := (by omega)); (try simp only [Int32.reduceToInt, Int64.reduceToInt, and_true, true_and, or_true, true_or]); (first | done | omega)) (fun i hi => by have hmm := hmono i ((((low + high).toUInt32 >>> ((1 : Int32) &&& 31).toUInt32).toInt32).toInt.toNat); have hbm : lbBefore vs kp kn ((((low + high).toUInt32 >>> ((1 : Int32) &&& 31).toUInt32).toInt32).toInt.toNat) := (by unfold lbBefore; (try simp only [Int32.reduceToInt, Int64.reduceToInt] at hbd); (try simp only [Int32.reduceToInt, Int64.reduceToInt] at hA); (try simp only [Int32.reduceToInt, Int64.reduceToInt] at hB); (try simp only [Int32.reduceToInt, Int64.reduceToInt] at c1); (try simp only [Int32.reduceToInt, Int64.reduceToInt] at c2); (try simp only [Int32.reduceToInt, Int64.reduceToInt] at c4); (try simp only [Int32.reduceToInt, Int64.reduceToInt] at c6); (try simp only [Int32.reduceToInt, Int64.reduceToInt] at c8); (try simp only [Int32.reduceToInt, Int64.reduceToInt] at hbd); (try simp only [Int32.reduceToInt, Int64.reduceToInt] at hc); have f1 := rng32 low; (try simp only [Int32.reduceToInt, Int64.reduceToInt] at f1); have f3 := rng32 high; (try simp only [Int32.reduceToInt, Int64.reduceToInt] at f3); have f5 := rng32 kp; (try simp only [Int32.reduceToInt, Int64.reduceToInt] at f5); have f7 := rng32 (vs.getD (1 + 2 * (((low + high).toUInt32 >>> ((1 : Int32) &&& 31).toUInt32).toInt32).toInt.toNat) 0); (try simp only [Int32.reduceToInt, Int64.reduceToInt] at f7); have f9 := rng32 kn; (try simp only [Int32.reduceToInt, Int64.reduceToInt] at f9); have f11 := rng32 (vs.getD (2 + 2 * (((low + high).toUInt32 >>> ((1 : Int32) &&& 31).toUInt32).toInt32).toInt.toNat) 0); (try simp only [Int32.reduceToInt, Int64.reduceToInt] at f11); have f15 := rng32 (low + high); (try simp only [Int32.reduceToInt, Int64.reduceToInt] at f15); have f16 := c_iadd low high; (try simp only [Int32.reduceToInt, Int64.reduceToInt] at f16); (try have f16e : (low + high).toInt = low.toInt + high.toInt := (by omega)); have f17 := rng32 (((low + high).toUInt32 >>> ((1 : Int32) &&& 31).toUInt32).toInt32); (try simp only [Int32.reduceToInt, Int64.reduceToInt] at f17); have f18 := c_iushr (low + high) (1 : Int32) 1 (by decide) (by decide); (try simp only [Int32.reduceToInt, Int64.reduceToInt] at f18); (try have f18e : (((low + high).toUInt32 >>> ((1 : Int32) &&& 31).toUInt32).toInt32).toInt = (low + high).toInt / 2 := (by omega)); have f19 := rng32 ((((low + high).toUInt32 >>> ((1 : Int32) &&& 31).toUInt32).toInt32) + (1 : Int32)); (try simp only [Int32.reduceToInt, Int64.reduceToInt] at f19); have f20 := c_iadd (((low + high).toUInt32 >>> ((1 : Int32) &&& 31).toUInt32).toInt32) (1 : Int32); (try simp only [Int32.reduceToInt, Int64.reduceToInt] at f20); (try have f20e : ((((low + high).toUInt32 >>> ((1 : Int32) &&& 31).toUInt32).toInt32) + (1 : Int32)).toInt = (((low + high).toUInt32 >>> ((1 : Int32) &&& 31).toUInt32).toInt32).toInt + (1 : Int) := (by omega)); (try simp only [Int32.reduceToInt, Int64.reduceToInt, and_true, true_and, or_true, true_or]); (first | done | omega)); exact hmm (by (try simp only [Int32.reduceToInt, Int64.reduceToInt] at hbd); (try simp only [Int32.reduceToInt, Int64.reduceToInt] at hA); (try simp only [Int32.reduceToInt, Int64.reduceToInt] at hB); (try simp only [Int32.reduceToInt, Int64.reduceToInt] at c1); (try simp only [Int32.reduceToInt, Int64.reduceToInt] at c2); (try simp only [Int32.reduceToInt, Int64.reduceToInt] at c4); (try simp only [Int32.reduceToInt, Int64.reduceToInt] at c6); (try simp only [Int32.reduceToInt, Int64.reduceToInt] at c8); (try simp only [Int32.reduceToInt, Int64.reduceToInt] at hbd); (try simp only [Int32.reduceToInt, Int64.reduceToInt] at hc); (try simp only [Int32.reduceToInt, Int64.reduceToInt] at hi); have f1 := rng32 low; (try simp only [Int32.reduceToInt, Int64.reduceToInt] at f1); have f3 := rng32 high; (try simp only [Int32.reduceToInt, Int64.reduceToInt] at f3); have f5 := rng32 kp; (try simp only [Int32.reduceToInt, Int64.reduceToInt] at f5); have f7 := rng32 (vs.getD (1 + 2 * (((low + high).toUInt32 >>> ((1 : Int32) &&& 31).toUInt32).toInt32).toInt.toNat) 0); (try simp only [Int32.reduceToInt, Int64.reduceToInt] at f7); have f9 := rng32 kn; (try simp only [Int32.reduceToInt, Int64.reduceToInt] at f9); have f11 := rng32 (vs.getD (2 + 2 * (((low + high).toUInt32 >>> ((1 : Int32) &&& 31).toUInt32).toInt32).toInt.toNat) 0); (try simp only [Int32.reduceToInt, Int64.reduceToInt] at f11); have f15 := rng32 (low + high); (try simp only [Int32.reduceToInt, Int64.reduceToInt] at f15); have f16 := c_iadd low high; (try simp only [Int32.reduceToInt, Int64.reduceToInt] at f16); (try have f16e : (low + high).toInt = low.toInt + high.toInt := (by omega)); have f17 := rng32 (((low + high).toUInt32 >>> ((1 : Int32) &&& 31).toUInt32).toInt32); (try simp only [Int32.reduceToInt, Int64.reduceToInt] at f17); have f18 := c_iushr (low + high) (1 : Int32) 1 (by decide) (by decide); (try simp only [Int32.reduceToInt, Int64.reduceToInt] at f18); (try have f18e : (((low + high).toUInt32 >>> ((1 : Int32) &&& 31).toUInt32).toInt32).toInt = (low + high).toInt / 2 := (by omega)); have f19 := rng32 ((((low + high).toUInt32 >>> ((1 : Int32) &&& 31).toUInt32).toInt32) + (1 : Int32)); (try simp only [Int32.reduceToInt, Int64.reduceToInt] at f19); have f20 := c_iadd (((low + high).toUInt32 >>> ((1 : Int32) &&& 31).toUInt32).toInt32) (1 : Int32); (try simp only [Int32.reduceToInt, Int64.reduceToInt] at f20); (try have f20e : ((((low + high).toUInt32 >>> ((1 : Int32) &&& 31).toUInt32).toInt32) + (1 : Int32)).toInt = (((low + high).toUInt32 >>> ((1 : Int32) &&& 31).toUInt32).toInt32).toInt + (1 : Int) := (by omega)); (try simp only [Int32.reduceToInt, Int64.reduceToInt, and_true, true_and, or_true, true_or]); (first | done | omega)) (by (try simp only [Int32.reduceToInt, Int64.reduceToInt] at hbd); (try simp only [Int32.reduceToInt, Int64.reduceToInt] at hA); (try simp only [Int32.reduceToInt, Int64.reduceToInt] at hB); (try simp only [Int32.reduceToInt, Int64.reduceToInt] at c1); (try simp only [Int32.reduceToInt, Int64.reduceToInt] at c2); (try simp only [Int32.reduceToInt, Int64.reduceToInt] at c4); (try simp only [Int32.reduceToInt, Int64.reduceToInt] at c6); (try simp only [Int32.reduceToInt, Int64.reduceToInt] at c8); (try simp only [Int32.reduceToInt, Int64.reduceToInt] at hbd); (try simp only [Int32.reduceToInt, Int64.reduceToInt] at hc); have f1 := rng32 low; (try simp only [Int32.reduceToInt, Int64.reduceToInt] at f1); have f3 := rng32 high; (try simp only [Int32.reduceToInt, Int64.reduceToInt] at f3); have f5 := rng32 kp; (try simp only [Int32.reduceToInt, Int64.reduceToInt] at f5); have f7 := rng32 (vs.getD (1 + 2 * (((low + high).toUInt32 >>> ((1 : Int32) &&& 31).toUInt32).toInt32).toInt.toNat) 0); (try simp only [Int32.reduceToInt, Int64.reduceToInt] at f7); have f9 := rng32 kn; (try simp only [Int32.reduceToInt, Int64.reduceToInt] at f9); have f11 := rng32 (vs.getD (2 + 2 * (((low + high).toUInt32 >>> ((1 : Int32) &&& 31).toUInt32).toInt32).toInt.toNat) 0); (try simp only [Int32.reduceToInt, Int64.reduceToInt] at f11); have f15 := rng32 (low + high); (try simp only [Int32.reduceToInt, Int64.reduceToInt] at f15); have f16 := c_iadd low high; (try simp only [Int32.reduceToInt, Int64.reduceToInt] at f16); (try have f16e : (low + high).toInt = low.toInt + high.toInt := (by omega)); have f17 := rng32 (((low + high).toUInt32 >>> ((1 : Int32) &&& 31).toUInt32).toInt32); (try simp only [Int32.reduceToInt, Int64.reduceToInt] at f17); have f18 := c_iushr (low + high) (1 : Int32) 1 (by decide) (by decide); (try simp only [Int32.reduceToInt, Int64.reduceToInt] at f18); (try have f18e : (((low + high).toUInt32 >>> ((1 : Int32) &&& 31).toUInt32).toInt32).toInt = (low + high).toInt / 2 := (by omega)); have f19 := rng32 ((((low + high).toUInt32 >>> ((1 : Int32) &&& 31).toUInt32).toInt32) + (1 : Int32)); (try simp only [Int32.reduceToInt, Int64.reduceToInt] at f19); have f20 := c_iadd (((low + high).toUInt32 >>> ((1 : Int32) &&& 31).toUInt32).toInt32) (1 : Int32); (try simp only [Int32.reduceToInt, Int64.reduceToInt] at f20); (try have f20e : ((((low + high).toUInt32 >>> ((1 : Int32) &&& 31).toUInt32).toInt32) + (1 : Int32)).toInt = (((low + high).toUInt32 >>> ((1 : Int32) &&& 31).toUInt32).toInt32).toInt + (1 : Int) := (by omega)); (try simp only [Int32.reduceToInt, Int64.reduceToInt, and_true, true_and, or_true, true_or]); (first | done | omega)) hbm) hB (by (try simp only [Int32.reduceToInt, Int64.reduceToInt] at hbd); (try simp only [Int32.reduceToInt, Int64.reduceToInt] at hA); (try simp only [Int32.reduceToInt, Int64.reduceToInt] at hB); (try simp only [Int32.reduceToInt, Int64.reduceToInt] at c1); (try simp only [Int32.reduceToInt, Int64.reduceToInt] at c2); (try simp only [Int32.reduceToInt, Int64.reduceToInt] at c4); (try simp only [Int32.reduceToInt, Int64.reduceToInt] at c6); (try simp only [Int32.reduceToInt, Int64.reduceToInt] at c8); (try simp only [Int32.reduceToInt, Int64.reduceToInt] at hn); have f1 := rng32 low; (try simp only [Int32.reduceToInt, Int64.reduceToInt] at f1); have f3 := rng32 high; (try simp only [Int32.reduceToInt, Int64.reduceToInt] at f3); have f5 := rng32 kp; (try simp only [Int32.reduceToInt, Int64.reduceToInt] at f5); have f7 := rng32 (vs.getD (1 + 2 * (((low + high).toUInt32 >>> ((1 : Int32) &&& 31).toUInt32).toInt32).toInt.toNat) 0); (try simp only [Int32.reduceToInt, Int64.reduceToInt] at f7); have f9 := rng32 kn; (try simp only [Int32.reduceToInt, Int64.reduceToInt] at f9); have f11 := rng32 (vs.getD (2 + 2 * (((low + high).toUInt32 >>> ((1 : Int32) &&& 31).toUInt32).toInt32).toInt.toNat) 0); (try simp only [Int32.reduceToInt, Int64.reduceToInt] at f11); have f15 := rng32 (low + high); (try simp only [Int32.reduceToInt, Int64.reduceToInt] at f15); have f16 := c_iadd low high; (try simp only [Int32.reduceToInt, Int64.reduceToInt] at f16); (try have f16e : (low + high).toInt = low.toInt + high.toInt := (by omega)); have f17 := rng32 (((low + high).toUInt32 >>> ((1 : Int32) &&& 31).toUInt32).toInt32); (try simp only [Int32.reduceToInt, Int64.reduceToInt] at f17); have f18 := c_iushr (low + high) (1 : Int32) 1 (by decide) (by decide); (try simp only [Int32.reduceToInt, Int64.reduceToInt] at f18); (try have f18e : (((low + high).toUInt32 >>> ((1 : Int32) &&& 31).toUInt32).toInt32).toInt = (low + high).toInt / 2 := (by omega)); have f19 := rng32 ((((low + high).toUInt32 >>> ((1 : Int32) &&& 31).toUInt32).toInt32) + (1 : Int32)); (try simp only [Int32.reduceToInt, Int64.reduceToInt] at f19); have f20 := c_iadd (((low + high).toUInt32 >>> ((1 : Int32) &&& 31).toUInt32).toInt32) (1 : Int32); (try simp only [Int32.reduceToInt, Int64.reduceToInt] at f20); (try have f20e : ((((low + high).toUInt32 >>> ((1 : Int32) &&& 31).toUInt32).toInt32) + (1 : Int32)).toInt = (((low + high).toUInt32 >>> ((1 : Int32) &&& 31).toUInt32).toInt32).toInt + (1 : Int) := (by omega)); (try simp only [Int32.reduceToInt, Int64.reduceToInt, and_true, true_and, or_true, true_or]); (first | done | omega))
  refine g_iconst (q := 1) (v := (0 : Int32)) X0.here hx (hb hby d6_0) rfl rfl ?_
  refine g_istoreN (q := 2) (L' := #[.val (.ref ed), .val (.int kp), .val (.int kn), .val (.int (0 : Int32)), .unset, .unset, .unset, .unset]) X0.here hx (hb hby d6_1) rfl rfl ?_
  refine g_aloadN (q := 3) X0.here hx (hb hby d6_2) rfl rfl rfl ?_
  refine g_iconst (q := 4) (v := (0 : Int32)) X0.here hx (hb hby d6_3) rfl rfl ?_
  refine g_iload_ (q := 5) (i := 0) (v := cn) X0 hx hZ e0 A0 rfl hn0 (hb hby d6_4) rfl ?_
  refine g_istore (q := 7) (L' := #[.val (.ref ed), .val (.int kp), .val (.int kn), .val (.int (0 : Int32)), .val (.int cn), .unset, .unset, .unset]) X0.here hx (hb hby d6_5) rfl rfl ?_
  exact LP7 ((cn.toInt - (0 : Int32).toInt).toNat + 1)  _ X0 e0 (0 : Int32) cn (.unset) (.unset) (.unset) One.u One.u One.u (by (try simp only [Int32.reduceToInt, Int64.reduceToInt] at hc); have f1 := rng32 cn; (try simp only [Int32.reduceToInt, Int64.reduceToInt] at f1); (try simp only [Int32.reduceToInt, Int64.reduceToInt, and_true, true_and, or_true, true_or]); (first | done | omega)) (fun i hi => by exfalso; (try simp only [Int32.reduceToInt, Int64.reduceToInt] at hi); have f1 := rng32 cn; (try simp only [Int32.reduceToInt, Int64.reduceToInt] at f1); (try simp only [Int32.reduceToInt, Int64.reduceToInt, and_true, true_and, or_true, true_or]); (first | done | omega)) (fun i hi1 hi2 => by exfalso; (try simp only [Int32.reduceToInt, Int64.reduceToInt] at hc); (try simp only [Int32.reduceToInt, Int64.reduceToInt] at hi1); have f1 := rng32 cn; (try simp only [Int32.reduceToInt, Int64.reduceToInt] at f1); (try simp only [Int32.reduceToInt, Int64.reduceToInt, and_true, true_and, or_true, true_or]); (first | done | omega)) (Nat.lt_succ_self _)
def RM_rm2 : Room := ({ frames := 0, cells := 0, slots := 0, locals := 0 } : Room)
theorem d2_0 : decode prog_6_method_3_code 0 = .ok (.aload_n 0, 1) := by decide +kernel
theorem d2_1 : decode prog_6_method_3_code 1 = .ok (.iconst 0, 1) := by decide +kernel
theorem d2_2 : decode prog_6_method_3_code 2 = .ok (.iaload, 1) := by decide +kernel
theorem d2_3 : decode prog_6_method_3_code 3 = .ok (.ireturn, 1) := by decide +kernel
theorem ef_2 (m : MethodId) (z0 : Addr) : entryFrame m #[.ref z0] 1 = mkF m 0 #[.val (.ref z0)] [] := by first | (simp [entryFrame, mkF, argsToLocals, Value.category]; done) | rfl
set_option maxRecDepth 65536 in
set_option maxHeartbeats 40000000 in
theorem rm2 (l : Launch) (Z : State) (a0 : Array Value) (hw : ∀ d ∈ tables_1, d.before a0 Z = true) (ws : List Jvm.Cond) (ed : Addr) (h0 : Heap) (n0 : Nat) (Z0 : n0 ≤ h0.size) (vs : List Int32) (A0 : IA Z h0 ed vs) (r : Int32) (hr : vs[0]? = some r) :
    Ctr l Z (⟨"com/example/revisor/revisor/PackedEdges", "count", "([I)I"⟩ : MethodName) prog_6_method_3_code 1 (some .int) RM_rm2 ws #[.ref ed] h0 (PQ (.int r) h0) := by
  refine Ctr.of (plainFor_of_name pn_0) ?_
  intro p e s m below meth c s₁ hx hby hml hrt hlk hnm hown hZ X0 e0
  have N0 := Fr.nil n0
  refine Go.cast (ef_2 m ed) ?_
  refine g_aloadN (q := 1) X0.here hx (hb hby d2_0) rfl rfl rfl ?_
  refine g_iconst (q := 2) (v := (0 : Int32)) X0.here hx (hb hby d2_1) rfl rfl ?_
  refine g_iload_ (q := 3) (i := 0) (v := r) X0 hx hZ e0 A0 rfl hr (hb hby d2_2) rfl ?_
  exact g_ireturn X0 hx hlk hrt (hb hby d2_3) (by decide) (by decide) ⟨rfl, e0, rfl⟩
def RM_rm3 : Room := ({ frames := 0, cells := 0, slots := 0, locals := 0 } : Room)
theorem d3_0 : decode prog_6_method_4_code 0 = .ok (.aload_n 0, 1) := by decide +kernel
theorem d3_1 : decode prog_6_method_4_code 1 = .ok (.iconst 1, 1) := by decide +kernel
theorem d3_2 : decode prog_6_method_4_code 2 = .ok (.iconst 2, 1) := by decide +kernel
theorem d3_3 : decode prog_6_method_4_code 3 = .ok (.iload_n 1, 1) := by decide +kernel
theorem d3_4 : decode prog_6_method_4_code 4 = .ok (.imul, 1) := by decide +kernel
theorem d3_5 : decode prog_6_method_4_code 5 = .ok (.iadd, 1) := by decide +kernel
theorem d3_6 : decode prog_6_method_4_code 6 = .ok (.iaload, 1) := by decide +kernel
theorem d3_7 : decode prog_6_method_4_code 7 = .ok (.ireturn, 1) := by decide +kernel
theorem ef_3 (m : MethodId) (z0 : Addr) (z1 : Int32) : entryFrame m #[.ref z0, .int z1] 2 = mkF m 0 #[.val (.ref z0), .val (.int z1)] [] := by first | (simp [entryFrame, mkF, argsToLocals, Value.category]; done) | rfl
set_option maxRecDepth 65536 in
set_option maxHeartbeats 40000000 in
theorem rm3 (l : Launch) (Z : State) (a0 : Array Value) (hw : ∀ d ∈ tables_1, d.before a0 Z = true) (ws : List Jvm.Cond) (ed : Addr) (pr : Int32) (h0 : Heap) (n0 : Nat) (Z0 : n0 ≤ h0.size) (vs : List Int32) (A0 : IA Z h0 ed vs) (r : Int32) (i : Nat) (hi : pr.toInt = (i : Int)) (hr : vs[1 + 2 * i]? = some r) :
    Ctr l Z (⟨"com/example/revisor/revisor/PackedEdges", "predicate", "([II)I"⟩ : MethodName) prog_6_method_4_code 2 (some .int) RM_rm3 ws #[.ref ed, .int pr] h0 (PQ (.int r) h0) := by
  refine Ctr.of (plainFor_of_name pn_0) ?_
  intro p e s m below meth c s₁ hx hby hml hrt hlk hnm hown hZ X0 e0
  have N0 := Fr.nil n0
  refine Go.cast (ef_3 m ed pr) ?_
  have hvl : vs.length < 2 ^ 31 := by have := A0.len; rwa [List.length_map] at this
  have hri : 1 + 2 * i < vs.length := (List.getElem?_eq_some_iff.mp hr).1
  refine g_aloadN (q := 1) X0.here hx (hb hby d3_0) rfl rfl rfl ?_
  refine g_iconst (q := 2) (v := (1 : Int32)) X0.here hx (hb hby d3_1) rfl rfl ?_
  refine g_iconst (q := 3) (v := (2 : Int32)) X0.here hx (hb hby d3_2) rfl rfl ?_
  refine g_iloadN (q := 4) X0.here hx (hb hby d3_3) rfl rfl ?_
  refine g_imul (q := 5) X0.here hx (hb hby d3_4) rfl ?_
  refine g_iadd (q := 6) X0.here hx (hb hby d3_5) rfl ?_
  refine g_iload_ (q := 7) (i := (1 + 2 * i)) (v := r) X0 hx hZ e0 A0 (by (try simp only [Int32.reduceToInt, Int64.reduceToInt] at hi); have f3 := rng32 pr; (try simp only [Int32.reduceToInt, Int64.reduceToInt] at f3); have f4 := rng32 ((2 : Int32) * pr); (try simp only [Int32.reduceToInt, Int64.reduceToInt] at f4); have f5 := c_imul (2 : Int32) pr; (try simp only [Int32.reduceToInt, Int64.reduceToInt] at f5); (try have f5e : ((2 : Int32) * pr).toInt = (2 : Int) * pr.toInt := (by omega)); have f6 := rng32 ((1 : Int32) + ((2 : Int32) * pr)); (try simp only [Int32.reduceToInt, Int64.reduceToInt] at f6); have f7 := c_iadd (1 : Int32) ((2 : Int32) * pr); (try simp only [Int32.reduceToInt, Int64.reduceToInt] at f7); (try have f7e : ((1 : Int32) + ((2 : Int32) * pr)).toInt = (1 : Int) + ((2 : Int32) * pr).toInt := (by omega)); (try simp only [Int32.reduceToInt, Int64.reduceToInt, and_true, true_and, or_true, true_or]); (first | done | omega)) hr (hb hby d3_6) rfl ?_
  exact g_ireturn X0 hx hlk hrt (hb hby d3_7) (by decide) (by decide) ⟨rfl, e0, rfl⟩
def RM_rm4 : Room := ({ frames := 0, cells := 0, slots := 0, locals := 0 } : Room)
theorem d4_0 : decode prog_6_method_5_code 0 = .ok (.aload_n 0, 1) := by decide +kernel
theorem d4_1 : decode prog_6_method_5_code 1 = .ok (.iconst 2, 1) := by decide +kernel
theorem d4_2 : decode prog_6_method_5_code 2 = .ok (.iconst 2, 1) := by decide +kernel
theorem d4_3 : decode prog_6_method_5_code 3 = .ok (.iload_n 1, 1) := by decide +kernel
theorem d4_4 : decode prog_6_method_5_code 4 = .ok (.imul, 1) := by decide +kernel
theorem d4_5 : decode prog_6_method_5_code 5 = .ok (.iadd, 1) := by decide +kernel
theorem d4_6 : decode prog_6_method_5_code 6 = .ok (.iaload, 1) := by decide +kernel
theorem d4_7 : decode prog_6_method_5_code 7 = .ok (.ireturn, 1) := by decide +kernel
theorem ef_4 (m : MethodId) (z0 : Addr) (z1 : Int32) : entryFrame m #[.ref z0, .int z1] 2 = mkF m 0 #[.val (.ref z0), .val (.int z1)] [] := by first | (simp [entryFrame, mkF, argsToLocals, Value.category]; done) | rfl
set_option maxRecDepth 65536 in
set_option maxHeartbeats 40000000 in
theorem rm4 (l : Launch) (Z : State) (a0 : Array Value) (hw : ∀ d ∈ tables_1, d.before a0 Z = true) (ws : List Jvm.Cond) (ed : Addr) (pr : Int32) (h0 : Heap) (n0 : Nat) (Z0 : n0 ≤ h0.size) (vs : List Int32) (A0 : IA Z h0 ed vs) (r : Int32) (i : Nat) (hi : pr.toInt = (i : Int)) (hr : vs[2 + 2 * i]? = some r) :
    Ctr l Z (⟨"com/example/revisor/revisor/PackedEdges", "node", "([II)I"⟩ : MethodName) prog_6_method_5_code 2 (some .int) RM_rm4 ws #[.ref ed, .int pr] h0 (PQ (.int r) h0) := by
  refine Ctr.of (plainFor_of_name pn_0) ?_
  intro p e s m below meth c s₁ hx hby hml hrt hlk hnm hown hZ X0 e0
  have N0 := Fr.nil n0
  refine Go.cast (ef_4 m ed pr) ?_
  have hvl : vs.length < 2 ^ 31 := by have := A0.len; rwa [List.length_map] at this
  have hri : 2 + 2 * i < vs.length := (List.getElem?_eq_some_iff.mp hr).1
  refine g_aloadN (q := 1) X0.here hx (hb hby d4_0) rfl rfl rfl ?_
  refine g_iconst (q := 2) (v := (2 : Int32)) X0.here hx (hb hby d4_1) rfl rfl ?_
  refine g_iconst (q := 3) (v := (2 : Int32)) X0.here hx (hb hby d4_2) rfl rfl ?_
  refine g_iloadN (q := 4) X0.here hx (hb hby d4_3) rfl rfl ?_
  refine g_imul (q := 5) X0.here hx (hb hby d4_4) rfl ?_
  refine g_iadd (q := 6) X0.here hx (hb hby d4_5) rfl ?_
  refine g_iload_ (q := 7) (i := (2 + 2 * i)) (v := r) X0 hx hZ e0 A0 (by (try simp only [Int32.reduceToInt, Int64.reduceToInt] at hi); have f3 := rng32 pr; (try simp only [Int32.reduceToInt, Int64.reduceToInt] at f3); have f4 := rng32 ((2 : Int32) * pr); (try simp only [Int32.reduceToInt, Int64.reduceToInt] at f4); have f5 := c_imul (2 : Int32) pr; (try simp only [Int32.reduceToInt, Int64.reduceToInt] at f5); (try have f5e : ((2 : Int32) * pr).toInt = (2 : Int) * pr.toInt := (by omega)); have f6 := rng32 ((2 : Int32) + ((2 : Int32) * pr)); (try simp only [Int32.reduceToInt, Int64.reduceToInt] at f6); have f7 := c_iadd (2 : Int32) ((2 : Int32) * pr); (try simp only [Int32.reduceToInt, Int64.reduceToInt] at f7); (try have f7e : ((2 : Int32) + ((2 : Int32) * pr)).toInt = (2 : Int) + ((2 : Int32) * pr).toInt := (by omega)); (try simp only [Int32.reduceToInt, Int64.reduceToInt, and_true, true_and, or_true, true_or]); (first | done | omega)) hr (hb hby d4_6) rfl ?_
  exact g_ireturn X0 hx hlk hrt (hb hby d4_7) (by decide) (by decide) ⟨rfl, e0, rfl⟩
def RM_rm1 : Room := ({ frames := 0, cells := 1, slots := 3, locals := 0 } : Room)
theorem d1_0 : decode prog_6_method_2_code 0 = .ok (.iconst 3, 1) := by decide +kernel
theorem d1_1 : decode prog_6_method_2_code 1 = .ok (.newarray .int, 2) := by decide +kernel
theorem d1_3 : decode prog_6_method_2_code 3 = .ok (.dup, 1) := by decide +kernel
theorem d1_4 : decode prog_6_method_2_code 4 = .ok (.iconst 0, 1) := by decide +kernel
theorem d1_5 : decode prog_6_method_2_code 5 = .ok (.iconst 1, 1) := by decide +kernel
theorem d1_6 : decode prog_6_method_2_code 6 = .ok (.iastore, 1) := by decide +kernel
theorem d1_7 : decode prog_6_method_2_code 7 = .ok (.dup, 1) := by decide +kernel
theorem d1_8 : decode prog_6_method_2_code 8 = .ok (.iconst 1, 1) := by decide +kernel
theorem d1_9 : decode prog_6_method_2_code 9 = .ok (.iload_n 0, 1) := by decide +kernel
theorem d1_10 : decode prog_6_method_2_code 10 = .ok (.iastore, 1) := by decide +kernel
theorem d1_11 : decode prog_6_method_2_code 11 = .ok (.dup, 1) := by decide +kernel
theorem d1_12 : decode prog_6_method_2_code 12 = .ok (.iconst 2, 1) := by decide +kernel
theorem d1_13 : decode prog_6_method_2_code 13 = .ok (.iload_n 1, 1) := by decide +kernel
theorem d1_14 : decode prog_6_method_2_code 14 = .ok (.iastore, 1) := by decide +kernel
theorem d1_15 : decode prog_6_method_2_code 15 = .ok (.areturn, 1) := by decide +kernel
theorem ef_1 (m : MethodId) (z0 : Int32) (z1 : Int32) : entryFrame m #[.int z0, .int z1] 2 = mkF m 0 #[.val (.int z0), .val (.int z1)] [] := by first | (simp [entryFrame, mkF, argsToLocals, Value.category]; done) | rfl
set_option maxRecDepth 65536 in
set_option maxHeartbeats 40000000 in
theorem rm1 (l : Launch) (Z : State) (a0 : Array Value) (hw : ∀ d ∈ tables_1, d.before a0 Z = true) (ws : List Jvm.Cond) (pa : Int32) (na : Int32) (h0 : Heap) (n0 : Nat) (Z0 : n0 ≤ h0.size) :
    Ctr l Z (⟨"com/example/revisor/revisor/PackedEdges", "of", "(II)[I"⟩ : MethodName) prog_6_method_2_code 2 (some (.array .int)) RM_rm1 ws #[.int pa, .int na] h0 (fun v h L => ∃ o : Addr, v = some (.ref o) ∧ h0.size ≤ o ∧ Fr n0 L ∧ Keep h0 h [] ∧ IA Z h o [1, pa, na]) := by
  refine Ctr.of (plainFor_of_name pn_0) ?_
  intro p e s m below meth c s₁ hx hby hml hrt hlk hnm hown hZ X0 e0
  have N0 := Fr.nil n0
  refine Go.cast (ef_1 m pa na) ?_
  refine g_iconst (q := 1) (v := (3 : Int32)) X0.here hx (hb hby d1_0) rfl rfl ?_
  refine g_inew_ (q := 3) (n := 3) (cap := 3) X0 hx hZ (hw _ (List.mem_of_getElem? (i := 4) rfl)) e0 rfl (by decide) (by decide) (hb hby d1_1) rfl (by decide) (by decide) ?_
  intro T1 h1 o1 X1 e1 E1 q1 A1
  replace A1 : IA Z h1 o1 ([(0 : Int32), (0 : Int32), (0 : Int32)] : List Int32) := A1
  have g2 : n0 ≤ o1 := ge_new Z0 q1
  have g3 : h0.size ≤ o1 := ge_new (Keep.refl h0 []).1 q1
  have K4 := Keep.ext (Keep.refl h0 []) E1
  have Z5 : n0 ≤ h1.size := Nat.le_trans Z0 E1.1
  refine g_dup (q := 4) X1.here hx (hb hby d1_3) rfl rfl ?_
  refine g_iconst (q := 5) (v := (0 : Int32)) X1.here hx (hb hby d1_4) rfl rfl ?_
  refine g_iconst (q := 6) (v := (1 : Int32)) X1.here hx (hb hby d1_5) rfl rfl ?_
  refine g_istore_ (q := 7) (i := 0) (v := (1 : Int32)) X1 hx hZ e1 A1 rfl (by show 0 < 3; decide) (hb hby d1_6) rfl ?_
  intro T6 h6 X6 e6 W6 A6
  replace A6 : IA Z h6 o1 ([(1 : Int32), (0 : Int32), (0 : Int32)] : List Int32) := A6
  have K7 := Keep.wr K4 W6 (Or.inr g3)
  have N9 := Fr.snoc X6 N0 g2
  have Z10 : n0 ≤ h6.size := Nat.le_trans Z5 (Nat.le_of_eq W6.size.symm)
  refine g_dup (q := 8) X6.here hx (hb hby d1_7) rfl rfl ?_
  refine g_iconst (q := 9) (v := (1 : Int32)) X6.here hx (hb hby d1_8) rfl rfl ?_
  refine g_iloadN (q := 10) X6.here hx (hb hby d1_9) rfl rfl ?_
  refine g_istore_ (q := 11) (i := 1) (v := pa) X6 hx hZ e6 A6 rfl (by show 1 < 3; decide) (hb hby d1_10) rfl ?_
  intro T11 h11 X11 e11 W11 A11
  replace A11 : IA Z h11 o1 ([(1 : Int32), pa, (0 : Int32)] : List Int32) := A11
  have K12 := Keep.wr K7 W11 (Or.inr g3)
  have N14 := Fr.snoc X11 N9 g2
  have Z15 : n0 ≤ h11.size := Nat.le_trans Z10 (Nat.le_of_eq W11.size.symm)
  refine g_dup (q := 12) X11.here hx (hb hby d1_11) rfl rfl ?_
  refine g_iconst (q := 13) (v := (2 : Int32)) X11.here hx (hb hby d1_12) rfl rfl ?_
  refine g_iloadN (q := 14) X11.here hx (hb hby d1_13) rfl rfl ?_
  refine g_istore_ (q := 15) (i := 2) (v := na) X11 hx hZ e11 A11 rfl (by show 2 < 3; decide) (hb hby d1_14) rfl ?_
  intro T16 h16 X16 e16 W16 A16
  replace A16 : IA Z h16 o1 ([(1 : Int32), pa, na] : List Int32) := A16
  have K17 := Keep.wr K12 W16 (Or.inr g3)
  have N19 := Fr.snoc X16 N14 g2
  have Z20 : n0 ≤ h16.size := Nat.le_trans Z15 (Nat.le_of_eq W16.size.symm)
  exact g_areturn X16 hx hlk rfl hrt rfl (hb hby d1_15) (by decide) (by decide) (by rw [e16]; exact ⟨_, rfl, g3, N19, K17, A16⟩)
theorem pd_0 : parseMethodDescriptor "([III)I" = some ⟨[(.array .int), .int, .int], some .int⟩ := by decide +kernel
def RM_rm5 : Room := ({ frames := 1, cells := 0, slots := 0, locals := 19 } : Room)
theorem d5_0 : decode prog_6_method_9_code 0 = .ok (.aload_n 0, 1) := by decide +kernel
theorem d5_1 : decode prog_6_method_9_code 1 = .ok (.iload_n 1, 1) := by decide +kernel
theorem d5_2 : decode prog_6_method_9_code 2 = .ok (.iload_n 2, 1) := by decide +kernel
theorem d5_3 : decode prog_6_method_9_code 3 = .ok (.invokestatic 7, 3) := by decide +kernel
theorem d5_6 : decode prog_6_method_9_code 6 = .ok (.istore_n 3, 1) := by decide +kernel
theorem d5_7 : decode prog_6_method_9_code 7 = .ok (.iload_n 3, 1) := by decide +kernel
theorem d5_8 : decode prog_6_method_9_code 8 = .ok (.aload_n 0, 1) := by decide +kernel
theorem d5_9 : decode prog_6_method_9_code 9 = .ok (.iconst 0, 1) := by decide +kernel
theorem d5_10 : decode prog_6_method_9_code 10 = .ok (.iaload, 1) := by decide +kernel
theorem d5_11 : decode prog_6_method_9_code 11 = .ok (.if_icmp .ge 29, 3) := by decide +kernel
theorem d5_14 : decode prog_6_method_9_code 14 = .ok (.aload_n 0, 1) := by decide +kernel
theorem d5_15 : decode prog_6_method_9_code 15 = .ok (.iconst 1, 1) := by decide +kernel
theorem d5_16 : decode prog_6_method_9_code 16 = .ok (.iconst 2, 1) := by decide +kernel
theorem d5_17 : decode prog_6_method_9_code 17 = .ok (.iload_n 3, 1) := by decide +kernel
theorem d5_18 : decode prog_6_method_9_code 18 = .ok (.imul, 1) := by decide +kernel
theorem d5_19 : decode prog_6_method_9_code 19 = .ok (.iadd, 1) := by decide +kernel
theorem d5_20 : decode prog_6_method_9_code 20 = .ok (.iaload, 1) := by decide +kernel
theorem d5_21 : decode prog_6_method_9_code 21 = .ok (.iload_n 1, 1) := by decide +kernel
theorem d5_22 : decode prog_6_method_9_code 22 = .ok (.if_icmp .ne 18, 3) := by decide +kernel
theorem d5_25 : decode prog_6_method_9_code 25 = .ok (.aload_n 0, 1) := by decide +kernel
theorem d5_26 : decode prog_6_method_9_code 26 = .ok (.iconst 2, 1) := by decide +kernel
theorem d5_27 : decode prog_6_method_9_code 27 = .ok (.iconst 2, 1) := by decide +kernel
theorem d5_28 : decode prog_6_method_9_code 28 = .ok (.iload_n 3, 1) := by decide +kernel
theorem d5_29 : decode prog_6_method_9_code 29 = .ok (.imul, 1) := by decide +kernel
theorem d5_30 : decode prog_6_method_9_code 30 = .ok (.iadd, 1) := by decide +kernel
theorem d5_31 : decode prog_6_method_9_code 31 = .ok (.iaload, 1) := by decide +kernel
theorem d5_32 : decode prog_6_method_9_code 32 = .ok (.iload_n 2, 1) := by decide +kernel
theorem d5_33 : decode prog_6_method_9_code 33 = .ok (.if_icmp .ne 7, 3) := by decide +kernel
theorem d5_36 : decode prog_6_method_9_code 36 = .ok (.iconst 1, 1) := by decide +kernel
theorem d5_37 : decode prog_6_method_9_code 37 = .ok (.goto 4, 3) := by decide +kernel
theorem d5_40 : decode prog_6_method_9_code 40 = .ok (.iconst 0, 1) := by decide +kernel
theorem d5_41 : decode prog_6_method_9_code 41 = .ok (.ireturn, 1) := by decide +kernel
theorem ef_5 (m : MethodId) (z0 : Addr) (z1 : Int32) (z2 : Int32) : entryFrame m #[.ref z0, .int z1, .int z2] 4 = mkF m 0 #[.val (.ref z0), .val (.int z1), .val (.int z2), .unset] [] := by first | (simp [entryFrame, mkF, argsToLocals, Value.category]; done) | rfl
set_option maxRecDepth 65536 in
set_option maxHeartbeats 40000000 in
theorem rm5 (l : Launch) (Z : State) (a0 : Array Value) (hw : ∀ d ∈ tables_1, d.before a0 Z = true) (ws : List Jvm.Cond) (ed : Addr) (kp : Int32) (kn : Int32) (h0 : Heap) (n0 : Nat) (Z0 : n0 ≤ h0.size) (a1 b1 : Int32) (A0 : IA Z h0 ed [1, a1, b1]) :
    Ctr l Z (⟨"com/example/revisor/revisor/PackedEdges", "contains", "([III)Z"⟩ : MethodName) prog_6_method_9_code 4 (some .boolean) RM_rm5 ws #[.ref ed, .int kp, .int kn] h0 (PQ (.int (b2i (decide (a1.toInt = kp.toInt ∧ b1.toInt = kn.toInt)))) h0) := by
  refine Ctr.of (plainFor_of_name pn_0) ?_
  intro p e s m below meth c s₁ hx hby hml hrt hlk hnm hown hZ X0 e0
  have N0 := Fr.nil n0
  refine Go.cast (ef_5 m ed kp kn) ?_
  refine g_aloadN (q := 1) X0.here hx (hb hby d5_0) rfl rfl rfl ?_
  refine g_iloadN (q := 2) X0.here hx (hb hby d5_1) rfl rfl ?_
  refine g_iloadN (q := 3) X0.here hx (hb hby d5_2) rfl rfl ?_
  refine g_callSI (q := 6) X0 hx hZ hown (hw _ (List.mem_of_getElem? (i := 17) rfl)) (hw _ (List.mem_of_getElem? (i := 18) rfl)) (hw _ (List.mem_of_getElem? (i := 2) rfl)) (hw _ (List.mem_of_getElem? (i := 19) rfl)) (by decide) (rm6 l Z a0 hw [] ed kp kn h0 n0 Z0 [(1 : Int32), a1, b1] A0 (1 : Int32) 1 rfl rfl (by show 3 ≤ 3; decide) (fun i j h1 h2 hq => (show i = j by omega) ▸ hq)) (argsL := [.ref ed, .int kp, .int kn]) (rest := []) pd_0 rfl rfl rfl (hb hby d5_3) rfl (by rw [hml]; rfl) e0 (by decide) (W := 0) rfl (by decide) rfl rfl (by decide) (by decide) ?_
  intro T1 r2 X1 e1 hr2
  obtain ⟨k_r2, k1_r2, k2_r2, lo_r2, hi_r2⟩ := hr2
  have k3_r2 : k_r2 = 1 → (a1.toInt < kp.toInt ∨ (a1.toInt = kp.toInt ∧ b1.toInt < kn.toInt)) := fun q => lo_r2 0 (by omega)
  have k4_r2 : k_r2 = 0 → ¬ (a1.toInt < kp.toInt ∨ (a1.toInt = kp.toInt ∧ b1.toInt < kn.toInt)) := fun q => hi_r2 0 (by omega) (by omega)
  refine g_istoreN (q := 7) (L' := #[.val (.ref ed), .val (.int kp), .val (.int kn), .val (.int r2)]) X1.here hx (hb hby d5_6) rfl rfl ?_
  refine g_iloadN (q := 8) X1.here hx (hb hby d5_7) rfl rfl ?_
  refine g_aloadN (q := 9) X1.here hx (hb hby d5_8) rfl rfl rfl ?_
  refine g_iconst (q := 10) (v := (0 : Int32)) X1.here hx (hb hby d5_9) rfl rfl ?_
  refine g_iload_ (q := 11) (i := 0) (v := (1 : Int32)) X1 hx hZ e1 A0 rfl rfl (hb hby d5_10) rfl ?_
  refine g_icmp_ge (q := 40) (q0 := 14) X1.here hx (hb hby d5_11) (by decide) (by decide) rfl ?_ ?_
  · intro c3
    refine g_iconst (q := 41) (v := (0 : Int32)) X1.here hx (hb hby d5_40) rfl rfl ?_
    exact g_zreturn (b := false) X1 hx hlk hrt (hb hby d5_41) (by decide) (by decide) ⟨eqF (by (try simp only [Int32.reduceToInt, Int64.reduceToInt] at k1_r2); (try simp only [Int32.reduceToInt, Int64.reduceToInt] at k2_r2); (try simp only [Int32.reduceToInt, Int64.reduceToInt] at k3_r2); (try simp only [Int32.reduceToInt, Int64.reduceToInt] at k4_r2); (try simp only [Int32.reduceToInt, Int64.reduceToInt] at c3); have f1 := rng32 r2; (try simp only [Int32.reduceToInt, Int64.reduceToInt] at f1); have f3 := rng32 a1; (try simp only [Int32.reduceToInt, Int64.reduceToInt] at f3); have f5 := rng32 b1; (try simp only [Int32.reduceToInt, Int64.reduceToInt] at f5); have f7 := rng32 kp; (try simp only [Int32.reduceToInt, Int64.reduceToInt] at f7); have f9 := rng32 kn; (try simp only [Int32.reduceToInt, Int64.reduceToInt] at f9); (try simp only [Int32.reduceToInt, Int64.reduceToInt, and_true, true_and, or_true, true_or]); (first | done | omega)), e1, rfl⟩
  · intro c3
    refine g_aloadN (q := 15) X1.here hx (hb hby d5_14) rfl rfl rfl ?_
    refine g_iconst (q := 16) (v := (1 : Int32)) X1.here hx (hb hby d5_15) rfl rfl ?_
    refine g_iconst (q := 17) (v := (2 : Int32)) X1.here hx (hb hby d5_16) rfl rfl ?_
    refine g_iloadN (q := 18) X1.here hx (hb hby d5_17) rfl rfl ?_
    refine g_imul (q := 19) X1.here hx (hb hby d5_18) rfl ?_
    refine g_iadd (q := 20) X1.here hx (hb hby d5_19) rfl ?_
    refine g_iload_ (q := 21) (i := 1) (v := a1) X1 hx hZ e1 A0 (by (try simp only [Int32.reduceToInt, Int64.reduceToInt] at k1_r2); (try simp only [Int32.reduceToInt, Int64.reduceToInt] at k2_r2); (try simp only [Int32.reduceToInt, Int64.reduceToInt] at k3_r2); (try simp only [Int32.reduceToInt, Int64.reduceToInt] at k4_r2); (try simp only [Int32.reduceToInt, Int64.reduceToInt] at c3); have f1 := rng32 r2; (try simp only [Int32.reduceToInt, Int64.reduceToInt] at f1); have f4 := rng32 ((2 : Int32) * r2); (try simp only [Int32.reduceToInt, Int64.reduceToInt] at f4); have f5 := c_imul (2 : Int32) r2; (try simp only [Int32.reduceToInt, Int64.reduceToInt] at f5); (try have f5e : ((2 : Int32) * r2).toInt = (2 : Int) * r2.toInt := (by omega)); have f6 := rng32 ((1 : Int32) + ((2 : Int32) * r2)); (try simp only [Int32.reduceToInt, Int64.reduceToInt] at f6); have f7 := c_iadd (1 : Int32) ((2 : Int32) * r2); (try simp only [Int32.reduceToInt, Int64.reduceToInt] at f7); (try have f7e : ((1 : Int32) + ((2 : Int32) * r2)).toInt = (1 : Int) + ((2 : Int32) * r2).toInt := (by omega)); (try simp only [Int32.reduceToInt, Int64.reduceToInt, and_true, true_and, or_true, true_or]); (first | done | omega)) rfl (hb hby d5_20) rfl ?_
    refine g_iloadN (q := 22) X1.here hx (hb hby d5_21) rfl rfl ?_
    refine g_icmp_ne (q := 40) (q0 := 25) X1.here hx (hb hby d5_22) (by decide) (by decide) rfl ?_ ?_
    · intro c4
      refine g_iconst (q := 41) (v := (0 : Int32)) X1.here hx (hb hby d5_40) rfl rfl ?_
      exact g_zreturn (b := false) X1 hx hlk hrt (hb hby d5_41) (by decide) (by decide) ⟨eqF (by (try simp only [Int32.reduceToInt, Int64.reduceToInt] at k1_r2); (try simp only [Int32.reduceToInt, Int64.reduceToInt] at k2_r2); (try simp only [Int32.reduceToInt, Int64.reduceToInt] at k3_r2); (try simp only [Int32.reduceToInt, Int64.reduceToInt] at k4_r2); (try simp only [Int32.reduceToInt, Int64.reduceToInt] at c3); (try simp only [Int32.reduceToInt, Int64.reduceToInt] at c4); have f1 := rng32 r2; (try simp only [Int32.reduceToInt, Int64.reduceToInt] at f1); have f3 := rng32 kp; (try simp only [Int32.reduceToInt, Int64.reduceToInt] at f3); have f5 := rng32 a1; (try simp only [Int32.reduceToInt, Int64.reduceToInt] at f5); have f7 := rng32 b1; (try simp only [Int32.reduceToInt, Int64.reduceToInt] at f7); have f9 := rng32 kn; (try simp only [Int32.reduceToInt, Int64.reduceToInt] at f9); (try simp only [Int32.reduceToInt, Int64.reduceToInt, and_true, true_and, or_true, true_or]); (first | done | omega)), e1, rfl⟩
    · intro c4
      refine g_aloadN (q := 26) X1.here hx (hb hby d5_25) rfl rfl rfl ?_
      refine g_iconst (q := 27) (v := (2 : Int32)) X1.here hx (hb hby d5_26) rfl rfl ?_
      refine g_iconst (q := 28) (v := (2 : Int32)) X1.here hx (hb hby d5_27) rfl rfl ?_
      refine g_iloadN (q := 29) X1.here hx (hb hby d5_28) rfl rfl ?_
      refine g_imul (q := 30) X1.here hx (hb hby d5_29) rfl ?_
      refine g_iadd (q := 31) X1.here hx (hb hby d5_30) rfl ?_
      refine g_iload_ (q := 32) (i := 2) (v := b1) X1 hx hZ e1 A0 (by (try simp only [Int32.reduceToInt, Int64.reduceToInt] at k1_r2); (try simp only [Int32.reduceToInt, Int64.reduceToInt] at k2_r2); (try simp only [Int32.reduceToInt, Int64.reduceToInt] at k3_r2); (try simp only [Int32.reduceToInt, Int64.reduceToInt] at k4_r2); (try simp only [Int32.reduceToInt, Int64.reduceToInt] at c3); (try simp only [Int32.reduceToInt, Int64.reduceToInt] at c4); have f1 := rng32 r2; (try simp only [Int32.reduceToInt, Int64.reduceToInt] at f1); have f3 := rng32 kp; (try simp only [Int32.reduceToInt, Int64.reduceToInt] at f3); have f5 := rng32 a1; (try simp only [Int32.reduceToInt, Int64.reduceToInt] at f5); have f8 := rng32 ((2 : Int32) * r2); (try simp only [Int32.reduceToInt, Int64.reduceToInt] at f8); have f9 := c_imul (2 : Int32) r2; (try simp only [Int32.reduceToInt, Int64.reduceToInt] at f9); (try have f9e : ((2 : Int32) * r2).toInt = (2 : Int) * r2.toInt := (by omega)); have f10 := rng32 ((2 : Int32) + ((2 : Int32) * r2)); (try simp only [Int32.reduceToInt, Int64.reduceToInt] at f10); have f11 := c_iadd (2 : Int32) ((2 : Int32) * r2); (try simp only [Int32.reduceToInt, Int64.reduceToInt] at f11); (try have f11e : ((2 : Int32) + ((2 : Int32) * r2)).toInt = (2 : Int) + ((2 : Int32) * r2).toInt := (by omega)); (try simp only [Int32.reduceToInt, Int64.reduceToInt, and_true, true_and, or_true, true_or]); (first | done | omega)) rfl (hb hby d5_31) rfl ?_
      refine g_iloadN (q := 33) X1.here hx (hb hby d5_32) rfl rfl ?_
      refine g_sel_icmp_ne (q := 41) X1.here hx (hb hby d5_33) (by decide) (by decide) rfl (hb hby d5_40) (hb hby d5_36) (hb hby d5_37) rfl (by decide) (by decide) rfl ?_
      exact g_zreturn (b := decide (b1.toInt = kn.toInt)) X1 hx hlk hrt (hb hby d5_41) (by decide) (by decide) ⟨eqD (by (try simp only [Int32.reduceToInt, Int64.reduceToInt] at k1_r2); (try simp only [Int32.reduceToInt, Int64.reduceToInt] at k2_r2); (try simp only [Int32.reduceToInt, Int64.reduceToInt] at k3_r2); (try simp only [Int32.reduceToInt, Int64.reduceToInt] at k4_r2); (try simp only [Int32.reduceToInt, Int64.reduceToInt] at c3); (try simp only [Int32.reduceToInt, Int64.reduceToInt] at c4); have f1 := rng32 r2; (try simp only [Int32.reduceToInt, Int64.reduceToInt] at f1); have f3 := rng32 kp; (try simp only [Int32.reduceToInt, Int64.reduceToInt] at f3); have f5 := rng32 a1; (try simp only [Int32.reduceToInt, Int64.reduceToInt] at f5); have f7 := rng32 b1; (try simp only [Int32.reduceToInt, Int64.reduceToInt] at f7); have f9 := rng32 kn; (try simp only [Int32.reduceToInt, Int64.reduceToInt] at f9); (try simp only [Int32.reduceToInt, Int64.reduceToInt, and_true, true_and, or_true, true_or]); (first | done | omega)), e1, rfl⟩
theorem own_d {P : Prop} [Decidable P] : (decide P = true → P) ∧ (decide P = false → ¬ P) := ⟨of_decide_eq_true, of_decide_eq_false⟩
theorem pd_1 : parseMethodDescriptor "(II)[I" = some ⟨[.int, .int], some (.array .int)⟩ := by decide +kernel
theorem pd_2 : parseMethodDescriptor "([I)I" = some ⟨[(.array .int)], some .int⟩ := by decide +kernel
theorem pd_3 : parseMethodDescriptor "([II)I" = some ⟨[(.array .int), .int], some .int⟩ := by decide +kernel
theorem pd_4 : parseMethodDescriptor "([III)Z" = some ⟨[(.array .int), .int, .int], some .boolean⟩ := by decide +kernel
theorem ef_0 (m : MethodId) (z0 : Int32) (z1 : Int32) (z2 : Int32) (z3 : Int32) : entryFrame m #[.int z0, .int z1, .int z2, .int z3] maxLocals = mkF m 0 #[.val (.int z0), .val (.int z1), .val (.int z2), .val (.int z3), .unset, .unset, .unset, .unset, .unset, .unset, .unset] [] := by first | (simp [entryFrame, mkF, argsToLocals, Value.category, maxLocals]; done) | rfl
theorem pn_1 : plainName "com/example/revisor/revisor/PackedEdgesOfPinLaw" = true := by first | (simp [plainName, overriddenIn]; done) | decide +kernel
set_option maxRecDepth 65536 in
set_option maxHeartbeats 40000000 in
theorem rm0 (l : Launch) (Z : State) (a0 : Array Value) (hw : ∀ d ∈ tables_1, d.before a0 Z = true) (ws : List Jvm.Cond) (a : Int32) (b : Int32) (c1 : Int32) (d : Int32) (h0 : Heap) (n0 : Nat) (Z0 : n0 ≤ h0.size) :
    Ctr l Z x code maxLocals ret room_1 ws #[.int a, .int b, .int c1, .int d] h0 (fun v h L => v = some (.int 1) ∧ Fr n0 L) := by
  refine Ctr.of (plainFor_of_name pn_1) ?_
  intro p e s m below meth c s₁ hx hby hml hrt hlk hnm hown hZ X0 e0
  have N0 := Fr.nil n0
  refine Go.cast (ef_0 m a b c1 d) ?_
  replace hown : s.vm.findClass "com/example/revisor/revisor/PackedEdgesOfPinLaw" = some m.cls := hown
  replace hml : c.maxLocals = 11 := hml
  replace hrt : meth.sig.returnType = some .boolean := hrt
  refine g_iloadN (q := 1) X0.here hx (hb hby at_0) rfl rfl ?_
  refine g_iloadN (q := 2) X0.here hx (hb hby at_1) rfl rfl ?_
  refine g_callS (q := 5) X0 hx hZ hown (hw _ (List.mem_of_getElem? (i := 0) rfl)) (hw _ (List.mem_of_getElem? (i := 1) rfl)) (hw _ (List.mem_of_getElem? (i := 2) rfl)) (hw _ (List.mem_of_getElem? (i := 3) rfl)) (by decide) (rm1 l Z a0 hw [] a b h0 n0 Z0) (argsL := [.int a, .int b]) (rest := []) pd_1 rfl rfl rfl (hb hby at_2) rfl (by rw [hml]; rfl) e0 (by decide) (W := 0) rfl (by decide) (by decide) (by decide) ?_
  intro v1 T1 Lc1 X1 Q1
  obtain ⟨o2, rfl, gq1, Nq1, Kq1, A1⟩ := Q1
  have N3 := Fr.app N0 Nq1
  have g4 : n0 ≤ o2 := Nat.le_trans Z0 gq1
  have Z5 : n0 ≤ T1.heap.size := Nat.le_trans Z0 Kq1.1
  refine g_astore (q := 7) (L' := #[.val (.int a), .val (.int b), .val (.int c1), .val (.int d), .val (.ref o2), .unset, .unset, .unset, .unset, .unset, .unset]) X1.here hx (hb hby at_5) rfl rfl rfl ?_
  refine g_iloadN (q := 8) X1.here hx (hb hby at_7) rfl rfl ?_
  refine g_iloadN (q := 9) X1.here hx (hb hby at_8) rfl rfl ?_
  refine g_callS (q := 12) X1 hx hZ hown (hw _ (List.mem_of_getElem? (i := 0) rfl)) (hw _ (List.mem_of_getElem? (i := 1) rfl)) (hw _ (List.mem_of_getElem? (i := 2) rfl)) (hw _ (List.mem_of_getElem? (i := 3) rfl)) (by decide) (rm1 l Z a0 hw [] c1 d T1.heap n0 Z5) (argsL := [.int c1, .int d]) (rest := []) pd_1 rfl rfl rfl (hb hby at_9) rfl (by rw [hml]; rfl) rfl (by decide) (W := 0) rfl (by decide) (by decide) (by decide) ?_
  intro v6 T6 Lc6 X6 Q6
  obtain ⟨o7, rfl, gq6, Nq6, Kq6, A6⟩ := Q6
  have N8 := Fr.app N3 Nq6
  have n9 : o2 ≠ o7 := ne_ge A1.lt gq6
  have g10 : n0 ≤ o7 := Nat.le_trans Z5 gq6
  have F11 := ArrL.keep A1 Kq6 nin0
  have Z12 : n0 ≤ T6.heap.size := Nat.le_trans Z5 Kq6.1
  refine g_astore (q := 14) (L' := #[.val (.int a), .val (.int b), .val (.int c1), .val (.int d), .val (.ref o2), .val (.ref o7), .unset, .unset, .unset, .unset, .unset]) X6.here hx (hb hby at_12) rfl rfl rfl ?_
  refine g_aload (q := 16) X6.here hx (hb hby at_14) rfl rfl rfl ?_
  refine g_ifnull_no (q := 19) X6 hx (hb hby at_16) rfl ?_
  refine g_aload (q := 21) X6.here hx (hb hby at_19) rfl rfl rfl ?_
  refine g_ifnull_no (q := 24) X6 hx (hb hby at_21) rfl ?_
  refine g_aload (q := 26) X6.here hx (hb hby at_24) rfl rfl rfl ?_
  refine g_alen (q := 27) (v := (3 : Int32)) X6 hx hZ rfl F11 rfl (hb hby at_26) rfl ?_
  refine g_iconst (q := 28) (v := (3 : Int32)) X6.here hx (hb hby at_27) rfl rfl ?_
  refine g_icmp_lt (q := 45) (q0 := 31) X6.here hx (hb hby at_28) (by decide) (by decide) rfl ?_ ?_
  · intro c13; exact absurd c13 (by decide)
  · intro c13
    refine g_aload (q := 33) X6.here hx (hb hby at_31) rfl rfl rfl ?_
    refine g_alen (q := 34) (v := (3 : Int32)) X6 hx hZ rfl A6 rfl (hb hby at_33) rfl ?_
    refine g_iconst (q := 35) (v := (3 : Int32)) X6.here hx (hb hby at_34) rfl rfl ?_
    refine g_icmp_lt (q := 45) (q0 := 38) X6.here hx (hb hby at_35) (by decide) (by decide) rfl ?_ ?_
    · intro c14; exact absurd c14 (by decide)
    · intro c14
      refine g_aload (q := 40) X6.here hx (hb hby at_38) rfl rfl rfl ?_
      refine g_aload (q := 42) X6.here hx (hb hby at_40) rfl rfl rfl ?_
      refine g_acmp_ne (q := 47) (q0 := 45) X6 hx (hb hby at_42) (by decide) (by decide) rfl ?_ ?_
      · intro c15
        refine g_aload (q := 49) X6.here hx (hb hby at_47) rfl rfl rfl ?_
        refine g_callSP (q := 52) X6 hx hZ hown (hw _ (List.mem_of_getElem? (i := 5) rfl)) (hw _ (List.mem_of_getElem? (i := 6) rfl)) (hw _ (List.mem_of_getElem? (i := 2) rfl)) (hw _ (List.mem_of_getElem? (i := 7) rfl)) (by decide) (rm2 l Z a0 hw [] o2 T6.heap n0 Z12 [(1 : Int32), a, b] F11 (1 : Int32) rfl) (argsL := [.ref o2]) (rest := []) pd_2 rfl rfl rfl (hb hby at_49) rfl (by rw [hml]; rfl) rfl (by decide) (W := 0) rfl (by decide) rfl rfl (by decide) (by decide) ?_
        intro T16 X16 e16
        refine g_iconst (q := 53) (v := (1 : Int32)) X16.here hx (hb hby at_52) rfl rfl ?_
        refine g_icmp_ne (q := 80) (q0 := 56) X16.here hx (hb hby at_53) (by decide) (by decide) rfl ?_ ?_
        · intro c17; exact absurd c17 (by decide)
        · intro c17
          refine g_aload (q := 58) X16.here hx (hb hby at_56) rfl rfl rfl ?_
          refine g_iconst (q := 59) (v := (0 : Int32)) X16.here hx (hb hby at_58) rfl rfl ?_
          refine g_callSP (q := 62) X16 hx hZ hown (hw _ (List.mem_of_getElem? (i := 8) rfl)) (hw _ (List.mem_of_getElem? (i := 9) rfl)) (hw _ (List.mem_of_getElem? (i := 2) rfl)) (hw _ (List.mem_of_getElem? (i := 10) rfl)) (by decide) (rm3 l Z a0 hw [] o2 (0 : Int32) T6.heap n0 Z12 [(1 : Int32), a, b] F11 a 0 rfl rfl) (argsL := [.ref o2, .int (0 : Int32)]) (rest := []) pd_3 rfl rfl rfl (hb hby at_59) rfl (by rw [hml]; rfl) e16 (by decide) (W := 0) rfl (by decide) rfl rfl (by decide) (by decide) ?_
          intro T18 X18 e18
          refine g_iloadN (q := 63) X18.here hx (hb hby at_62) rfl rfl ?_
          refine g_icmp_ne (q := 80) (q0 := 66) X18.here hx (hb hby at_63) (by decide) (by decide) rfl ?_ ?_
          · intro c19; exfalso; omega
          · intro c19
            refine g_aload (q := 68) X18.here hx (hb hby at_66) rfl rfl rfl ?_
            refine g_iconst (q := 69) (v := (0 : Int32)) X18.here hx (hb hby at_68) rfl rfl ?_
            refine g_callSP (q := 72) X18 hx hZ hown (hw _ (List.mem_of_getElem? (i := 11) rfl)) (hw _ (List.mem_of_getElem? (i := 12) rfl)) (hw _ (List.mem_of_getElem? (i := 2) rfl)) (hw _ (List.mem_of_getElem? (i := 13) rfl)) (by decide) (rm4 l Z a0 hw [] o2 (0 : Int32) T6.heap n0 Z12 [(1 : Int32), a, b] F11 b 0 rfl rfl) (argsL := [.ref o2, .int (0 : Int32)]) (rest := []) pd_3 rfl rfl rfl (hb hby at_69) rfl (by rw [hml]; rfl) e18 (by decide) (W := 0) rfl (by decide) rfl rfl (by decide) (by decide) ?_
            intro T20 X20 e20
            refine g_iloadN (q := 73) X20.here hx (hb hby at_72) rfl rfl ?_
            refine g_sel_icmp_ne (q := 81) X20.here hx (hb hby at_73) (by decide) (by decide) rfl (hb hby at_80) (hb hby at_76) (hb hby at_77) rfl (by decide) (by decide) rfl ?_
            refine g_istore (q := 83) (L' := #[.val (.int a), .val (.int b), .val (.int c1), .val (.int d), .val (.ref o2), .val (.ref o7), .val (.int (b2i (decide (b.toInt = b.toInt)))), .unset, .unset, .unset, .unset]) X20.here hx (hb hby at_81) rfl rfl ?_
            refine g_aload (q := 85) X20.here hx (hb hby at_83) rfl rfl rfl ?_
            refine g_callSP (q := 88) X20 hx hZ hown (hw _ (List.mem_of_getElem? (i := 5) rfl)) (hw _ (List.mem_of_getElem? (i := 6) rfl)) (hw _ (List.mem_of_getElem? (i := 2) rfl)) (hw _ (List.mem_of_getElem? (i := 7) rfl)) (by decide) (rm2 l Z a0 hw [] o7 T6.heap n0 Z12 [(1 : Int32), c1, d] A6 (1 : Int32) rfl) (argsL := [.ref o7]) (rest := []) pd_2 rfl rfl rfl (hb hby at_85) rfl (by rw [hml]; rfl) e20 (by decide) (W := 0) rfl (by decide) rfl rfl (by decide) (by decide) ?_
            intro T21 X21 e21
            refine g_iconst (q := 89) (v := (1 : Int32)) X21.here hx (hb hby at_88) rfl rfl ?_
            refine g_icmp_ne (q := 116) (q0 := 92) X21.here hx (hb hby at_89) (by decide) (by decide) rfl ?_ ?_
            · intro c22; exact absurd c22 (by decide)
            · intro c22
              refine g_aload (q := 94) X21.here hx (hb hby at_92) rfl rfl rfl ?_
              refine g_iconst (q := 95) (v := (0 : Int32)) X21.here hx (hb hby at_94) rfl rfl ?_
              refine g_callSP (q := 98) X21 hx hZ hown (hw _ (List.mem_of_getElem? (i := 8) rfl)) (hw _ (List.mem_of_getElem? (i := 9) rfl)) (hw _ (List.mem_of_getElem? (i := 2) rfl)) (hw _ (List.mem_of_getElem? (i := 10) rfl)) (by decide) (rm3 l Z a0 hw [] o7 (0 : Int32) T6.heap n0 Z12 [(1 : Int32), c1, d] A6 c1 0 rfl rfl) (argsL := [.ref o7, .int (0 : Int32)]) (rest := []) pd_3 rfl rfl rfl (hb hby at_95) rfl (by rw [hml]; rfl) e21 (by decide) (W := 0) rfl (by decide) rfl rfl (by decide) (by decide) ?_
              intro T23 X23 e23
              refine g_iloadN (q := 99) X23.here hx (hb hby at_98) rfl rfl ?_
              refine g_icmp_ne (q := 116) (q0 := 102) X23.here hx (hb hby at_99) (by decide) (by decide) rfl ?_ ?_
              · intro c24; exfalso; omega
              · intro c24
                refine g_aload (q := 104) X23.here hx (hb hby at_102) rfl rfl rfl ?_
                refine g_iconst (q := 105) (v := (0 : Int32)) X23.here hx (hb hby at_104) rfl rfl ?_
                refine g_callSP (q := 108) X23 hx hZ hown (hw _ (List.mem_of_getElem? (i := 11) rfl)) (hw _ (List.mem_of_getElem? (i := 12) rfl)) (hw _ (List.mem_of_getElem? (i := 2) rfl)) (hw _ (List.mem_of_getElem? (i := 13) rfl)) (by decide) (rm4 l Z a0 hw [] o7 (0 : Int32) T6.heap n0 Z12 [(1 : Int32), c1, d] A6 d 0 rfl rfl) (argsL := [.ref o7, .int (0 : Int32)]) (rest := []) pd_3 rfl rfl rfl (hb hby at_105) rfl (by rw [hml]; rfl) e23 (by decide) (W := 0) rfl (by decide) rfl rfl (by decide) (by decide) ?_
                intro T25 X25 e25
                refine g_iloadN (q := 109) X25.here hx (hb hby at_108) rfl rfl ?_
                refine g_sel_icmp_ne (q := 117) X25.here hx (hb hby at_109) (by decide) (by decide) rfl (hb hby at_116) (hb hby at_112) (hb hby at_113) rfl (by decide) (by decide) rfl ?_
                refine g_istore (q := 119) (L' := #[.val (.int a), .val (.int b), .val (.int c1), .val (.int d), .val (.ref o2), .val (.ref o7), .val (.int (b2i (decide (b.toInt = b.toInt)))), .val (.int (b2i (decide (d.toInt = d.toInt)))), .unset, .unset, .unset]) X25.here hx (hb hby at_117) rfl rfl ?_
                refine g_aload (q := 121) X25.here hx (hb hby at_119) rfl rfl rfl ?_
                refine g_iloadN (q := 122) X25.here hx (hb hby at_121) rfl rfl ?_
                refine g_iloadN (q := 123) X25.here hx (hb hby at_122) rfl rfl ?_
                refine g_callSP (q := 126) X25 hx hZ hown (hw _ (List.mem_of_getElem? (i := 14) rfl)) (hw _ (List.mem_of_getElem? (i := 15) rfl)) (hw _ (List.mem_of_getElem? (i := 2) rfl)) (hw _ (List.mem_of_getElem? (i := 16) rfl)) (by decide) (rm5 l Z a0 hw [] o2 a b T6.heap n0 Z12 a b F11) (argsL := [.ref o2, .int a, .int b]) (rest := []) pd_4 rfl rfl rfl (hb hby at_123) rfl (by rw [hml]; rfl) e25 (by decide) (W := 0) rfl (by decide) rfl rfl (by decide) (by decide) ?_
                intro T26 X26 e26
                refine g_istore (q := 128) (L' := #[.val (.int a), .val (.int b), .val (.int c1), .val (.int d), .val (.ref o2), .val (.ref o7), .val (.int (b2i (decide (b.toInt = b.toInt)))), .val (.int (b2i (decide (d.toInt = d.toInt)))), .val (.int (b2i (decide (a.toInt = a.toInt ∧ b.toInt = b.toInt)))), .unset, .unset]) X26.here hx (hb hby at_126) rfl rfl ?_
                refine g_iloadN (q := 129) X26.here hx (hb hby at_128) rfl rfl ?_
                refine g_iloadN (q := 130) X26.here hx (hb hby at_129) rfl rfl ?_
                refine g_icmp_ne (q := 142) (q0 := 133) X26.here hx (hb hby at_130) (by decide) (by decide) rfl ?_ ?_
                · intro c27
                  refine g_iconst (q := 143) (v := (0 : Int32)) X26.here hx (hb hby at_142) rfl rfl ?_
                  refine g_istore (q := 145) (L' := #[.val (.int a), .val (.int b), .val (.int c1), .val (.int d), .val (.ref o2), .val (.ref o7), .val (.int (b2i (decide (b.toInt = b.toInt)))), .val (.int (b2i (decide (d.toInt = d.toInt)))), .val (.int (b2i (decide (a.toInt = a.toInt ∧ b.toInt = b.toInt)))), .val (.int (0 : Int32)), .unset]) X26.here hx (hb hby at_143) rfl rfl ?_
                  refine g_aload (q := 147) X26.here hx (hb hby at_145) rfl rfl rfl ?_
                  refine g_iloadN (q := 148) X26.here hx (hb hby at_147) rfl rfl ?_
                  refine g_iloadN (q := 149) X26.here hx (hb hby at_148) rfl rfl ?_
                  refine g_callSP (q := 152) X26 hx hZ hown (hw _ (List.mem_of_getElem? (i := 14) rfl)) (hw _ (List.mem_of_getElem? (i := 15) rfl)) (hw _ (List.mem_of_getElem? (i := 2) rfl)) (hw _ (List.mem_of_getElem? (i := 16) rfl)) (by decide) (rm5 l Z a0 hw [] o2 c1 d T6.heap n0 Z12 a b F11) (argsL := [.ref o2, .int c1, .int d]) (rest := []) pd_4 rfl rfl rfl (hb hby at_149) rfl (by rw [hml]; rfl) e26 (by decide) (W := 0) rfl (by decide) rfl rfl (by decide) (by decide) ?_
                  intro T28 X28 e28
                  refine g_iload (q := 154) X28.here hx (hb hby at_152) rfl rfl ?_
                  refine g_sel_icmp_ne (q := 162) X28.here hx (hb hby at_154) (by decide) (by decide) rfl (hb hby at_161) (hb hby at_157) (hb hby at_158) rfl (by decide) (by decide) rfl ?_
                  refine g_istore (q := 164) (L' := #[.val (.int a), .val (.int b), .val (.int c1), .val (.int d), .val (.ref o2), .val (.ref o7), .val (.int (b2i (decide (b.toInt = b.toInt)))), .val (.int (b2i (decide (d.toInt = d.toInt)))), .val (.int (b2i (decide (a.toInt = a.toInt ∧ b.toInt = b.toInt)))), .val (.int (0 : Int32)), .val (.int (b2i (decide ((b2i (decide (a.toInt = c1.toInt ∧ b.toInt = d.toInt))).toInt = (0 : Int32).toInt))))]) X28.here hx (hb hby at_162) rfl rfl ?_
                  refine g_iload (q := 166) X28.here hx (hb hby at_164) rfl rfl ?_
                  refine g_ifB_eq (q := 188) (q0 := 169) X28.here hx (hb hby at_166) (by decide) (by decide) rfl ?_ ?_
                  · intro c29
                    refine g_iconst (q := 189) (v := (0 : Int32)) X28.here hx (hb hby at_188) rfl rfl ?_
                    exact g_zreturn (b := false) X28 hx hlk hrt (hb hby at_189) (by decide) (by decide) (by exfalso; revert c13 c14 c17 c19 c22 c24 c27 c29; simp [Bool.beq_eq_decide_eq]; (try omega))
                  · intro c29
                    refine g_iload (q := 171) X28.here hx (hb hby at_169) rfl rfl ?_
                    refine g_ifB_eq (q := 188) (q0 := 174) X28.here hx (hb hby at_171) (by decide) (by decide) rfl ?_ ?_
                    · intro c30
                      refine g_iconst (q := 189) (v := (0 : Int32)) X28.here hx (hb hby at_188) rfl rfl ?_
                      exact g_zreturn (b := false) X28 hx hlk hrt (hb hby at_189) (by decide) (by decide) (by exfalso; revert c13 c14 c17 c19 c22 c24 c27 c29 c30; simp [Bool.beq_eq_decide_eq]; (try omega))
                    · intro c30
                      refine g_iload (q := 176) X28.here hx (hb hby at_174) rfl rfl ?_
                      refine g_ifB_eq (q := 188) (q0 := 179) X28.here hx (hb hby at_176) (by decide) (by decide) rfl ?_ ?_
                      · intro c31
                        refine g_iconst (q := 189) (v := (0 : Int32)) X28.here hx (hb hby at_188) rfl rfl ?_
                        exact g_zreturn (b := false) X28 hx hlk hrt (hb hby at_189) (by decide) (by decide) (by exfalso; revert c13 c14 c17 c19 c22 c24 c27 c29 c30 c31; simp [Bool.beq_eq_decide_eq]; (try omega))
                      · intro c31
                        refine g_iload (q := 181) X28.here hx (hb hby at_179) rfl rfl ?_
                        refine g_selB_eq (q := 189) X28.here hx (hb hby at_181) (by decide) (by decide) rfl (hb hby at_188) (hb hby at_184) (hb hby at_185) rfl (by decide) (by decide) rfl ?_
                        exact g_zreturn (b := decide ((b2i (decide (a.toInt = c1.toInt ∧ b.toInt = d.toInt))).toInt = (0 : Int32).toInt)) X28 hx hlk hrt (hb hby at_189) (by decide) (by decide) ⟨okB (by revert c13 c14 c17 c19 c22 c24 c27 c29 c30 c31; simp; (first | done | omega | (intros; simp_all [b2i]; done) | (intros; simp_all [b2i]; omega))), N8⟩
                · intro c27
                  refine g_iloadN (q := 134) X26.here hx (hb hby at_133) rfl rfl ?_
                  refine g_iloadN (q := 135) X26.here hx (hb hby at_134) rfl rfl ?_
                  refine g_sel_icmp_ne (q := 143) X26.here hx (hb hby at_135) (by decide) (by decide) rfl (hb hby at_142) (hb hby at_138) (hb hby at_139) rfl (by decide) (by decide) rfl ?_
                  refine g_istore (q := 145) (L' := #[.val (.int a), .val (.int b), .val (.int c1), .val (.int d), .val (.ref o2), .val (.ref o7), .val (.int (b2i (decide (b.toInt = b.toInt)))), .val (.int (b2i (decide (d.toInt = d.toInt)))), .val (.int (b2i (decide (a.toInt = a.toInt ∧ b.toInt = b.toInt)))), .val (.int (b2i (decide (b.toInt = d.toInt)))), .unset]) X26.here hx (hb hby at_143) rfl rfl ?_
                  refine g_aload (q := 147) X26.here hx (hb hby at_145) rfl rfl rfl ?_
                  refine g_iloadN (q := 148) X26.here hx (hb hby at_147) rfl rfl ?_
                  refine g_iloadN (q := 149) X26.here hx (hb hby at_148) rfl rfl ?_
                  refine g_callSP (q := 152) X26 hx hZ hown (hw _ (List.mem_of_getElem? (i := 14) rfl)) (hw _ (List.mem_of_getElem? (i := 15) rfl)) (hw _ (List.mem_of_getElem? (i := 2) rfl)) (hw _ (List.mem_of_getElem? (i := 16) rfl)) (by decide) (rm5 l Z a0 hw [] o2 c1 d T6.heap n0 Z12 a b F11) (argsL := [.ref o2, .int c1, .int d]) (rest := []) pd_4 rfl rfl rfl (hb hby at_149) rfl (by rw [hml]; rfl) e26 (by decide) (W := 0) rfl (by decide) rfl rfl (by decide) (by decide) ?_
                  intro T32 X32 e32
                  refine g_iload (q := 154) X32.here hx (hb hby at_152) rfl rfl ?_
                  refine g_selBB_ne (q := 162) X32.here hx (hb hby at_154) (by decide) (by decide) rfl (hb hby at_161) (hb hby at_157) (hb hby at_158) rfl (by decide) (by decide) rfl ?_
                  refine g_istore (q := 164) (L' := #[.val (.int a), .val (.int b), .val (.int c1), .val (.int d), .val (.ref o2), .val (.ref o7), .val (.int (b2i (decide (b.toInt = b.toInt)))), .val (.int (b2i (decide (d.toInt = d.toInt)))), .val (.int (b2i (decide (a.toInt = a.toInt ∧ b.toInt = b.toInt)))), .val (.int (b2i (decide (b.toInt = d.toInt)))), .val (.int (b2i ((decide (a.toInt = c1.toInt ∧ b.toInt = d.toInt)) == (decide (b.toInt = d.toInt)))))]) X32.here hx (hb hby at_162) rfl rfl ?_
                  refine g_iload (q := 166) X32.here hx (hb hby at_164) rfl rfl ?_
                  refine g_ifB_eq (q := 188) (q0 := 169) X32.here hx (hb hby at_166) (by decide) (by decide) rfl ?_ ?_
                  · intro c33
                    refine g_iconst (q := 189) (v := (0 : Int32)) X32.here hx (hb hby at_188) rfl rfl ?_
                    exact g_zreturn (b := false) X32 hx hlk hrt (hb hby at_189) (by decide) (by decide) (by exfalso; revert c13 c14 c17 c19 c22 c24 c27 c33; simp [Bool.beq_eq_decide_eq]; (try omega))
                  · intro c33
                    refine g_iload (q := 171) X32.here hx (hb hby at_169) rfl rfl ?_
                    refine g_ifB_eq (q := 188) (q0 := 174) X32.here hx (hb hby at_171) (by decide) (by decide) rfl ?_ ?_
                    · intro c34
                      refine g_iconst (q := 189) (v := (0 : Int32)) X32.here hx (hb hby at_188) rfl rfl ?_
                      exact g_zreturn (b := false) X32 hx hlk hrt (hb hby at_189) (by decide) (by decide) (by exfalso; revert c13 c14 c17 c19 c22 c24 c27 c33 c34; simp [Bool.beq_eq_decide_eq]; (try omega))
                    · intro c34
                      refine g_iload (q := 176) X32.here hx (hb hby at_174) rfl rfl ?_
                      refine g_ifB_eq (q := 188) (q0 := 179) X32.here hx (hb hby at_176) (by decide) (by decide) rfl ?_ ?_
                      · intro c35
                        refine g_iconst (q := 189) (v := (0 : Int32)) X32.here hx (hb hby at_188) rfl rfl ?_
                        exact g_zreturn (b := false) X32 hx hlk hrt (hb hby at_189) (by decide) (by decide) (by exfalso; revert c13 c14 c17 c19 c22 c24 c27 c33 c34 c35; simp [Bool.beq_eq_decide_eq]; (try omega))
                      · intro c35
                        refine g_iload (q := 181) X32.here hx (hb hby at_179) rfl rfl ?_
                        refine g_selB_eq (q := 189) X32.here hx (hb hby at_181) (by decide) (by decide) rfl (hb hby at_188) (hb hby at_184) (hb hby at_185) rfl (by decide) (by decide) rfl ?_
                        exact g_zreturn (b := ((decide (a.toInt = c1.toInt ∧ b.toInt = d.toInt)) == (decide (b.toInt = d.toInt)))) X32 hx hlk hrt (hb hby at_189) (by decide) (by decide) ⟨okB (by revert c13 c14 c17 c19 c22 c24 c27 c33 c34 c35; simp; (first | done | omega | (intros; simp_all [b2i]; done) | (intros; simp_all [b2i]; omega))), N8⟩
      · intro c15
        exact absurd c15 n9
set_option maxRecDepth 65536 in
set_option maxHeartbeats 40000000 in
theorem comes_1 {Post : Tables → Env → Array Value → State → Outcome → State → Prop} (hpost : ∀ tb e args s v u, (limb_1_1.after args s (.returned v) u = true ∧ limb_1_2.after args s (.returned v) u = true ∧ True) → FrameEnd s (.returned v) u (Jvm.fieldLocs frame_1_writes args s ++ Jvm.arrayLocs frame_1_arrays args s ++ Jvm.staticLocs frame_1_statics s) 16 128 → Post tb e args s (.returned v) u) :
    ArmFor flags0 classFile x code maxLocals ret World_1 tables_1 room_1 Calls_1 rest_1 Pre_1 Post := by
  intro l hfl _ _ p e ha hc hk s m args below hf hA hF happ hP
  obtain ⟨hcalls, hrest, hpre⟩ := hP
  obtain ⟨-, -, -, hnamed, -, -, -, hat⟩ := (Spec.applies_iff hf).mp happ
  obtain ⟨hg, hn⟩ := and_e (Cond.before_iff.mp (show (Jvm.Cond.and given_1 narrow_1).before args s = true from hpre))
  obtain ⟨g1, g2⟩ := and_e hg
  obtain ⟨g3, g4⟩ := and_e g2
  obtain ⟨g5, g6⟩ := and_e g4
  obtain ⟨g7, g8⟩ := and_e g6
  obtain ⟨w0, w1, w2, w3, rfl⟩ : ∃ w0 w1 w2 w3 : Value, args = #[w0, w1, w2, w3] := by
    have hs : args.size = 4 := by simpa [Cond.value, given_1] using g1
    obtain ⟨L⟩ := args
    match L, hs with
    | [w0, w1, w2, w3], _ => exact ⟨w0, w1, w2, w3, rfl⟩
  have hw := fun d (hd : d ∈ tables_1) => atoms_spec (ws := Jvm.Cond.code x code maxLocals ret :: tables_1) hat d (List.mem_cons_of_mem _ hd)
  obtain ⟨i0, ei0⟩ := is_v g3
  obtain rfl : w0 = (.int i0) := Option.some.inj ei0
  obtain ⟨i1, ei1⟩ := is_v g5
  obtain rfl : w1 = (.int i1) := Option.some.inj ei1
  obtain ⟨i2, ei2⟩ := is_v g7
  obtain rfl : w2 = (.int i2) := Option.some.inj ei2
  obtain ⟨i3, ei3⟩ := is_v g8
  obtain rfl : w3 = (.int i3) := Option.some.inj ei3
  obtain ⟨n, o, h1, h2, h3, _, L, rfl, ⟨rfl, N⟩, hq⟩ := rm0 l s _ hw tables_1 i0 i1 i2 i3 s.heap s.heap.size (Nat.le_refl _) p e ha hc hk s m _ below hf ((Spec.applies_iff_loose hf).mp happ).1 ⟨rfl, State.Warmed39.refl s, rfl⟩ trivial
  refine ⟨n, _, h1, h2, h3, hpost _ _ _ _ _ _ ⟨Cond.after_iff.mpr rfl, Cond.after_iff.mpr (eq_i res_at (Term.int_eval (1)) rfl), trivial⟩ ⟨hq.1, hq.2.1, (hq.2.2.sift fun y hy => Or.inr (N y hy)).mono (by decide) (by decide)⟩⟩
theorem main_1_1 : Claimed_1_1 := comes_1 fun _ _ _ _ _ _ h hF => ⟨h.1, hF⟩
theorem main_1_2 : Claimed_1_2 := comes_1 fun _ _ _ _ _ _ h hF => ⟨h.2.1, hF⟩
end Jvm.Pilot.@@N@@
namespace Jvm.Pilot.@@N@@
open Jvm Jvm.ClassFile Sem Op Lib Jvm.Free Jvm.Stand Jvm.Pilot.@@N@@.Jvm.D
/-! MADE BY PROGRAM (witnessworld.py) out of the Statement's table words and the real class files: 9 classes; the members and pool entries that the words name. The judged class is class 1, her method 1. -/
namespace start1
open Jvm.ClassFile
def u (s : String) : CpInfo := .utf8 (stringToUtf16 s)
/-- a pool by its gaps: so many unusable entries, then the entry; so many at the end -/
def gap : Nat → List CpInfo → List CpInfo
  | 0, r => r
  | n + 1, r => .unusable :: gap n r
def poolList (es : List (Nat × CpInfo)) (last : Nat) : List CpInfo := es.foldr (fun e r => gap e.1 (e.2 :: r)) (gap last [])
def pool (es : List (Nat × CpInfo)) (last : Nat) : Array CpInfo := ⟨poolList es last⟩
def fileOf (pool : Array CpInfo) (this : Nat) (attrs : Array Attribute := #[]) (ms : Array MethodInfo := #[]) (fl : Nat := 33) (sup : Nat := 0) (ifs : Array Nat := #[]) (fds : Array FieldInfo := #[]) : ClassFile where
  minorVersion := 0
  majorVersion := 65
  constantPool := pool
  accessFlags := fl
  thisClass := this
  superClass := sup
  interfaces := ifs
  fields := fds
  methods := ms
  attributes := attrs
def plain (name : String) (sup : Option ClassId) : Class where
  name := name
  kind := .ordinary
  loader := none
  accessFlags := 33
  super := sup
  interfaces := #[]
  cf := none
  fields := #[]
  methods := #[]
  instanceTypes := #[]
  staticTypes := #[]
  resolved := #[]
  callSites := []
  init := .initialized
  statics := none
  mirror := none

def pool0 : Array CpInfo := pool [(5, u "<init>"), (0, u "()V"), (1, .class_ 10), (1, u "java/lang/Object")] 113

def k0m0 : Method := { name := "<init>", desc := "()V", sig := { parameters := [], returnType := none }, accessFlags := 1, code := none }
/-- java/lang/Object -/
def k0 : Class := { plain "java/lang/Object" none with
  accessFlags := 33
  interfaces := #[]
  cf := some (fileOf pool0 8 #[] #[{ accessFlags := 1, nameIndex := 5, descriptorIndex := 6, attributes := #[] }] 33 0 #[] #[])
  fields := #[]
  methods := #[k0m0]
  instanceTypes := #[]
  staticTypes := #[]
  resolved := Array.replicate 124 none
  statics := none }

def pool1 : Array CpInfo := pool [(2, .class_ 4), (1, u "java/lang/Object"), (0, u "<init>"), (0, u "()V"), (0, .methodref 8 9), (0, .class_ 10), (0, .nameAndType 11 12), (0, u "com/example/revisor/revisor/PackedEdges"), (0, u "of"), (0, u "(II)[I"), (0, .methodref 8 14), (0, .nameAndType 15 16), (0, u "count"), (0, u "([I)I"), (0, .methodref 8 18), (0, .nameAndType 19 20), (0, u "predicate"), (0, u "([II)I"), (0, .methodref 8 22), (0, .nameAndType 23 20), (0, u "node"), (0, .methodref 8 25), (0, .nameAndType 26 27), (0, u "contains"), (0, u "([III)Z"), (0, .class_ 29), (0, u "com/example/revisor/revisor/PackedEdgesOfPinLaw"), (2, u "law"), (0, u "(IIII)Z")] 5

def k1m0 : Method := { name := "<init>", desc := "()V", sig := { parameters := [], returnType := none }, accessFlags := 2, code := none }
def k1c1 : Code := { maxStack := 3, maxLocals := 11, code := code, exceptionTable := #[], attributes := #[] }
def k1m1 : Method := { name := "law", desc := "(IIII)Z", sig := { parameters := [.int, .int, .int, .int], returnType := some .boolean }, accessFlags := 9, code := some k1c1 }
/-- com/example/revisor/revisor/PackedEdgesOfPinLaw -/
def k1 : Class := { plain "com/example/revisor/revisor/PackedEdgesOfPinLaw" (some 0) with
  accessFlags := 49
  interfaces := #[]
  cf := some (fileOf pool1 28 #[] #[{ accessFlags := 2, nameIndex := 5, descriptorIndex := 6, attributes := #[] }, { accessFlags := 9, nameIndex := 32, descriptorIndex := 33, attributes := #[] }] 49 2 #[] #[])
  fields := #[]
  methods := #[k1m0, k1m1]
  instanceTypes := #[]
  staticTypes := #[]
  resolved := Array.replicate 39 none
  statics := none }

def pool2 : Array CpInfo := pool [(2, .class_ 4), (1, u "java/lang/Object"), (0, u "<init>"), (0, u "()V"), (0, .methodref 8 9), (0, .class_ 10), (0, .nameAndType 11 12), (0, u "com/example/revisor/revisor/PackedEdges"), (0, u "lowerBound"), (0, u "([III)I"), (20, u "of"), (0, u "(II)[I"), (0, u "count"), (0, u "([I)I"), (0, u "predicate"), (0, u "([II)I"), (0, u "node"), (3, u "contains"), (0, u "([III)Z")] 8

def k2m0 : Method := { name := "<init>", desc := "()V", sig := { parameters := [], returnType := none }, accessFlags := 2, code := none }
def k2c1 : Code := { maxStack := 4, maxLocals := 2, code := prog_6_method_2_code, exceptionTable := #[], attributes := #[] }
def k2m1 : Method := { name := "of", desc := "(II)[I", sig := { parameters := [.int, .int], returnType := some (.array .int) }, accessFlags := 8, code := some k2c1 }
def k2c2 : Code := { maxStack := 2, maxLocals := 1, code := prog_6_method_3_code, exceptionTable := #[], attributes := #[] }
def k2m2 : Method := { name := "count", desc := "([I)I", sig := { parameters := [(.array .int)], returnType := some .int }, accessFlags := 8, code := some k2c2 }
def k2c3 : Code := { maxStack := 4, maxLocals := 2, code := prog_6_method_4_code, exceptionTable := #[], attributes := #[] }
def k2m3 : Method := { name := "predicate", desc := "([II)I", sig := { parameters := [(.array .int), .int], returnType := some .int }, accessFlags := 8, code := some k2c3 }
def k2c4 : Code := { maxStack := 4, maxLocals := 2, code := prog_6_method_5_code, exceptionTable := #[], attributes := #[] }
def k2m4 : Method := { name := "node", desc := "([II)I", sig := { parameters := [(.array .int), .int], returnType := some .int }, accessFlags := 8, code := some k2c4 }
def k2c5 : Code := { maxStack := 4, maxLocals := 8, code := prog_6_method_6_code, exceptionTable := #[], attributes := #[] }
def k2m5 : Method := { name := "lowerBound", desc := "([III)I", sig := { parameters := [(.array .int), .int, .int], returnType := some .int }, accessFlags := 8, code := some k2c5 }
def k2c6 : Code := { maxStack := 4, maxLocals := 4, code := prog_6_method_9_code, exceptionTable := #[], attributes := #[] }
def k2m6 : Method := { name := "contains", desc := "([III)Z", sig := { parameters := [(.array .int), .int, .int], returnType := some .boolean }, accessFlags := 8, code := some k2c6 }
/-- com/example/revisor/revisor/PackedEdges -/
def k2 : Class := { plain "com/example/revisor/revisor/PackedEdges" (some 0) with
  accessFlags := 48
  interfaces := #[]
  cf := some (fileOf pool2 8 #[] #[{ accessFlags := 2, nameIndex := 5, descriptorIndex := 6, attributes := #[] }, { accessFlags := 8, nameIndex := 33, descriptorIndex := 34, attributes := #[] }, { accessFlags := 8, nameIndex := 35, descriptorIndex := 36, attributes := #[] }, { accessFlags := 8, nameIndex := 37, descriptorIndex := 38, attributes := #[] }, { accessFlags := 8, nameIndex := 39, descriptorIndex := 38, attributes := #[] }, { accessFlags := 8, nameIndex := 11, descriptorIndex := 12, attributes := #[] }, { accessFlags := 8, nameIndex := 43, descriptorIndex := 44, attributes := #[] }] 48 2 #[] #[])
  fields := #[]
  methods := #[k2m0, k2m1, k2m2, k2m3, k2m4, k2m5, k2m6]
  instanceTypes := #[]
  staticTypes := #[]
  resolved := Array.replicate 53 none
  statics := none }

def pool3 : Array CpInfo := pool [(1, u "java/lang/Cloneable"), (0, .class_ 1), (0, u "java/lang/Object"), (0, .class_ 3)] 3

/-- java/lang/Cloneable -/
def k3 : Class := { plain "java/lang/Cloneable" (some 0) with
  accessFlags := 1537
  interfaces := #[]
  cf := some (fileOf pool3 2 #[] #[] 1537 4 #[] #[])
  fields := #[]
  methods := #[]
  instanceTypes := #[]
  staticTypes := #[]
  resolved := Array.replicate 8 none
  statics := none }

def pool4 : Array CpInfo := pool [(1, u "java/io/Serializable"), (0, .class_ 1), (0, u "java/lang/Object"), (0, .class_ 3)] 3

/-- java/io/Serializable -/
def k4 : Class := { plain "java/io/Serializable" (some 0) with
  accessFlags := 1537
  interfaces := #[]
  cf := some (fileOf pool4 2 #[] #[] 1537 4 #[] #[])
  fields := #[]
  methods := #[]
  instanceTypes := #[]
  staticTypes := #[]
  resolved := Array.replicate 8 none
  statics := none }

/-- the primitive byte -/
def k5 : Class := { plain "byte" none with kind := .primitive 'B', accessFlags := 0x411 }
/-- [B -/
def k6 : Class := { plain "[B" (some 0) with kind := .array 5 .byte, interfaces := #[3, 4], accessFlags := 1041 }

/-- the primitive int -/
def k7 : Class := { plain "int" none with kind := .primitive 'I', accessFlags := 0x411 }
/-- [I -/
def k8 : Class := { plain "[I" (some 0) with kind := .array 7 .int, interfaces := #[3, 4], accessFlags := 1041 }

def heap : Heap := #[]
def classes : Array Class := #[k0, k1, k2, k3, k4, k5, k6, k7, k8]
def interned : List (Array UInt16 × Addr) := []
def slotsUsed : Nat := 0
def theMethod : MethodId := ⟨1, 1⟩
def args0 : Array Value := #[.int 5, .int 6, .int 7, .int 8]
def aboutOver (below : List Frame) : State where
  vm := { classes := classes, interned := interned.toArray }
  heap := heap
  slotsUsed := slotsUsed
  threads := #[{ frames := .invoking theMethod args0 :: below }]
def below0 : List Frame := [.native { method := ⟨0, 0⟩, args := #[] }]
def about1 : State := aboutOver below0
def p0 : Program := .bare "" "" ""
def e0 : Env := launch0.env 0 0 0
theorem w_frames : about1.frames = Frame.invoking theMethod args0 :: below0 := rfl
set_option maxRecDepth 65536 in
theorem w_args : argsFit about1.vm theMethod args0 = true := by decide +kernel
set_option maxRecDepth 65536 in
theorem w_heap : heapFits about1 = true := by decide +kernel
set_option maxRecDepth 65536 in
theorem w_runnable : about1.curStatus? = some .runnable := by decide +kernel
set_option maxRecDepth 65536 in
theorem w_alone : about1.alone = true := by decide +kernel
set_option maxRecDepth 65536 in
theorem w_named : about1.methodNamed? x = some theMethod := by decide +kernel
set_option maxRecDepth 65536 in
theorem w_hears : about1.hears theMethod below0 = true := by decide +kernel
set_option maxRecDepth 65536 in
theorem w_ripe : about1.ripe theMethod args0 below0 = true := by decide +kernel
theorem w_running : about1.status = .running := rfl
set_option maxRecDepth 65536 in
theorem w_room : about1.hasRoom e0.platform room_1 = true :=
  launch0.hasRoom_least _ room_1 (by decide +kernel) (by decide +kernel) (by decide +kernel) (by decide +kernel) (by decide +kernel) (by decide +kernel)
theorem allAtoms_all (ts : List Jvm.Cond) (a : Array Jvm.Value) (st : Jvm.State) : (allAtoms ts).before a st = ts.all (fun c => c.before a st) := by
  induction ts with
  | nil => rfl
  | cons c t ih =>
    show (Jvm.Cond.and c (allAtoms t)).before a st = _
    rw [Jvm.Cond.before_and, ih, List.all_cons]
def words1 : List Jvm.Cond := Jvm.Cond.code x code maxLocals ret :: tables_1
/-- a 'code' word, met by the world's own term for the bytes: nothing is compared byte by byte -/
theorem code_word {y : MethodName} {bytes : ByteArray} {mx : Nat} {rt : Option FieldType} {a : Array Value} {s : State} {m : MethodId} {meth : Method} {c : Code} (h1 : s.methodNamed? y = some m) (h2 : s.vm.method? m = some meth) (h3 : meth.code = some c) (h4 : c.code = bytes)
    (h5 : (c.maxLocals == mx && c.exceptionTable.isEmpty && decide (c.maxStack ≤ mostOperands) && decide (meth.sig.returnType = rt) && !meth.locks && decide (parseMethodDescriptor y.desc = some meth.sig)) = true) : (Jvm.Cond.code y bytes mx rt).before a s = true := by
  simp only [Bool.and_eq_true, beq_iff_eq, Bool.not_eq_true', decide_eq_true_eq] at h5
  obtain ⟨⟨⟨⟨⟨g1, g2⟩, g3⟩, g4⟩, g5⟩, g6⟩ := h5
  simp [Cond.before, Cond.holds, Cond.value, h1, h2, h3, h4, g1, g2, g3, g4, g5, g6]
def isCode : Jvm.Cond → Bool
  | .code _ _ _ _ => true
  | _ => false
theorem all_split {L : List Jvm.Cond} {P : Jvm.Cond → Bool} (h1 : L.all (fun c => isCode c || P c) = true) (h2 : ∀ c ∈ L.filter isCode, P c = true) : L.all P = true := by
  refine List.all_eq_true.mpr fun c hc => ?_
  have h := List.all_eq_true.mp h1 c hc
  rcases Bool.eq_false_or_eq_true (isCode c) with hi | hi
  · exact h2 c (List.mem_filter.mpr ⟨hc, hi⟩)
  · simpa [hi] using h
set_option maxRecDepth 65536 in
theorem w_c0 : (Jvm.Cond.code x code maxLocals ret).before args0 about1 = true := code_word (m := ⟨1, 1⟩) (meth := k1m1) (c := k1c1) (by decide +kernel) rfl rfl rfl (by decide +kernel)
set_option maxRecDepth 65536 in
theorem w_c1 : (Jvm.Cond.code ({ cls := "com/example/revisor/revisor/PackedEdges", name := "of", desc := "(II)[I" } : Jvm.MethodName) prog_6_method_2_code (2 : Nat) (Option.some (Jvm.ClassFile.FieldType.array Jvm.ClassFile.FieldType.int))).before args0 about1 = true := code_word (m := ⟨2, 1⟩) (meth := k2m1) (c := k2c1) (by decide +kernel) rfl rfl rfl (by decide +kernel)
set_option maxRecDepth 65536 in
theorem w_c2 : (Jvm.Cond.code ({ cls := "com/example/revisor/revisor/PackedEdges", name := "count", desc := "([I)I" } : Jvm.MethodName) prog_6_method_3_code (1 : Nat) (Option.some Jvm.ClassFile.FieldType.int)).before args0 about1 = true := code_word (m := ⟨2, 2⟩) (meth := k2m2) (c := k2c2) (by decide +kernel) rfl rfl rfl (by decide +kernel)
set_option maxRecDepth 65536 in
theorem w_c3 : (Jvm.Cond.code ({ cls := "com/example/revisor/revisor/PackedEdges", name := "predicate", desc := "([II)I" } : Jvm.MethodName) prog_6_method_4_code (2 : Nat) (Option.some Jvm.ClassFile.FieldType.int)).before args0 about1 = true := code_word (m := ⟨2, 3⟩) (meth := k2m3) (c := k2c3) (by decide +kernel) rfl rfl rfl (by decide +kernel)
set_option maxRecDepth 65536 in
theorem w_c4 : (Jvm.Cond.code ({ cls := "com/example/revisor/revisor/PackedEdges", name := "node", desc := "([II)I" } : Jvm.MethodName) prog_6_method_5_code (2 : Nat) (Option.some Jvm.ClassFile.FieldType.int)).before args0 about1 = true := code_word (m := ⟨2, 4⟩) (meth := k2m4) (c := k2c4) (by decide +kernel) rfl rfl rfl (by decide +kernel)
set_option maxRecDepth 65536 in
theorem w_c5 : (Jvm.Cond.code ({ cls := "com/example/revisor/revisor/PackedEdges", name := "contains", desc := "([III)Z" } : Jvm.MethodName) prog_6_method_9_code (4 : Nat) (Option.some Jvm.ClassFile.FieldType.boolean)).before args0 about1 = true := code_word (m := ⟨2, 6⟩) (meth := k2m6) (c := k2c6) (by decide +kernel) rfl rfl rfl (by decide +kernel)
set_option maxRecDepth 65536 in
theorem w_c6 : (Jvm.Cond.code ({ cls := "com/example/revisor/revisor/PackedEdges", name := "lowerBound", desc := "([III)I" } : Jvm.MethodName) prog_6_method_6_code (8 : Nat) (Option.some Jvm.ClassFile.FieldType.int)).before args0 about1 = true := code_word (m := ⟨2, 5⟩) (meth := k2m5) (c := k2c5) (by decide +kernel) rfl rfl rfl (by decide +kernel)
def codes1 : List Jvm.Cond := [Jvm.Cond.code x code maxLocals ret, Jvm.Cond.code ({ cls := "com/example/revisor/revisor/PackedEdges", name := "of", desc := "(II)[I" } : Jvm.MethodName) prog_6_method_2_code (2 : Nat) (Option.some (Jvm.ClassFile.FieldType.array Jvm.ClassFile.FieldType.int)), Jvm.Cond.code ({ cls := "com/example/revisor/revisor/PackedEdges", name := "count", desc := "([I)I" } : Jvm.MethodName) prog_6_method_3_code (1 : Nat) (Option.some Jvm.ClassFile.FieldType.int), Jvm.Cond.code ({ cls := "com/example/revisor/revisor/PackedEdges", name := "predicate", desc := "([II)I" } : Jvm.MethodName) prog_6_method_4_code (2 : Nat) (Option.some Jvm.ClassFile.FieldType.int), Jvm.Cond.code ({ cls := "com/example/revisor/revisor/PackedEdges", name := "node", desc := "([II)I" } : Jvm.MethodName) prog_6_method_5_code (2 : Nat) (Option.some Jvm.ClassFile.FieldType.int), Jvm.Cond.code ({ cls := "com/example/revisor/revisor/PackedEdges", name := "contains", desc := "([III)Z" } : Jvm.MethodName) prog_6_method_9_code (4 : Nat) (Option.some Jvm.ClassFile.FieldType.boolean), Jvm.Cond.code ({ cls := "com/example/revisor/revisor/PackedEdges", name := "lowerBound", desc := "([III)I" } : Jvm.MethodName) prog_6_method_6_code (8 : Nat) (Option.some Jvm.ClassFile.FieldType.int)]
set_option maxRecDepth 65536 in
theorem codes_eq : words1.filter isCode = codes1 := rfl
theorem w_codes : ∀ c ∈ words1.filter isCode, c.before args0 about1 = true := by
  rw [codes_eq]
  intro c hc
  simp only [codes1, List.mem_cons, List.not_mem_nil, or_false] at hc
  rcases hc with rfl | rfl | rfl | rfl | rfl | rfl | rfl
  · exact w_c0
  · exact w_c1
  · exact w_c2
  · exact w_c3
  · exact w_c4
  · exact w_c5
  · exact w_c6
set_option maxRecDepth 65536 in
theorem w_t1 : words1.all (fun c => isCode c || c.before args0 about1) = true := by decide +kernel
theorem w_tables : (allAtoms (Jvm.Cond.code x code maxLocals ret :: tables_1)).before args0 about1 = true := by
  rw [allAtoms_all]
  show words1.all (fun c => c.before args0 about1) = true
  refine all_split ?_ w_codes
  rw [w_t1]
set_option maxRecDepth 65536 in
theorem w_case : (Jvm.Cond.and given_1 narrow_1).before args0 about1 = true := by decide +kernel
theorem w_applies : (headSpec (Jvm.Cond.code x code maxLocals ret :: tables_1) room_1).applies x e0.platform about1 = true :=
  (Spec.applies_iff w_frames).mpr ⟨w_running, w_runnable, w_alone, w_named, w_hears, w_ripe, w_room, w_tables⟩
theorem atStart : AtStart classFile x code maxLocals ret World_1 tables_1 room_1 Calls_1 rest_1 Pre_1 launch0 p0 e0 about1 theMethod args0 below0 :=
  ⟨lists_1, trivial, launch0.admits_env _ _ _, launch0.least_env, fairChoices_fair.cas, fairChoices_fair.clock, w_frames, w_args, w_heap, w_applies, trivial, trivial, w_case⟩
end start1
theorem witness_1 : WitnessClaimed_1 := ⟨start1.p0, start1.e0, start1.about1, start1.theMethod, start1.args0, start1.below0, start1.atStart⟩
end Jvm.Pilot.@@N@@
