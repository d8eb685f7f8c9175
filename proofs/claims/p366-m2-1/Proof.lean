import JvmDerived
import JvmDerived.Pilot.@@N@@Statement
import JvmDerived.Pilot.@@N@@Code
set_option linter.unusedVariables false
set_option linter.unusedSimpArgs false
namespace Jvm.Pilot.@@N@@
open Jvm Jvm.ClassFile Sem Op Lib Jvm.Free Jvm.Stand Jvm.LawKit Jvm.RoadKit Bundle Jvm.Pilot.@@N@@.Jvm.D
/-! OWN FRAMEWORK, part 1: a weakest-precondition form of the walk (W), its single steps, returns, calls -/
/-- what is known of the heap: addresses with what their cells are -/
abbrev Asn := List (Addr × (Cell → Prop))
def Sep (Z : State) (n0 : Nat) (h : Heap) (σ : Asn) : Prop := Old Z n0 h ∧ (∀ x ∈ σ, n0 ≤ x.1 ∧ ∃ c : Cell, h[x.1]? = some c ∧ x.2 c) ∧ (σ.map (fun x => x.1)).Nodup
/-- a body: its class, name, bytes, max_locals, return kind -/
abbrev Bdy := String × String × ByteArray × Nat × Option FieldType
def Cx (p : Program) (s : State) (m : MethodId) (meth : Method) (c : Code) (Z : State) (B : Bdy) : Prop :=
  p.tables.exec = Jvm.exec ∧ c.code = B.2.2.1 ∧ c.maxLocals = B.2.2.2.1 ∧ s.vm.findClass B.1 = some m.cls ∧ meth.name = B.2.1 ∧ Z.Warmed39 s.vm ∧ meth.sig.returnType = B.2.2.2.2 ∧ meth.locks = false
/-- from this point (known heap, pc, locals, stack) the body returns, and what it returns meets Q -/
def W (l : Launch) (Z : State) (n0 : Nat) (B : Bdy) (R : Room) (Q : Option Value → Asn → Prop) (cells slots : Nat) (σ : Asn) (pc : Nat) (ls : Array Slot) (st : List Value) : Prop :=
  ∀ (p : Program) (e : Env) (s : State) (m : MethodId) (args : Array Value) (below : List Frame) (meth : Method) (c : Code) (T : State) (locs : List Loc),
    Cx p s m meth c Z B → Stand p l e R s m args below meth c T locs cells slots → Fr n0 locs → Sep Z n0 T.heap σ →
    ∃ (u : State) (o : Outcome), Steps p.tables e below (T.setTop (mkF m pc ls st)) u ∧ u.status = .running ∧ Ended u below o ∧
      ∃ (v : Option Value) (L : List Loc), o = .returned v ∧ ((∃ σ', Q v σ' ∧ Sep Z n0 u.heap σ') ∧ Fr n0 L) ∧ FrameEnd s o u L R.cells R.slots
/-- a contract: called with these arguments on a heap that meets σ, the method returns, and Q holds -/
def Sp (l : Launch) (Z : State) (n0 : Nat) (y : MethodName) (bytes : ByteArray) (maxL : Nat) (ret : Option FieldType) (rm : Room) (as : List Value) (σ : Asn) (Q : Option Value → Asn → Prop) : Prop :=
  ∀ (ws : List Jvm.Cond) (h0 : Heap), Sep Z n0 h0 σ → MetFree l y (head1 (Jvm.Cond.code y bytes maxL ret :: ws) rm) (fun a U => a = as.toArray ∧ Z.Warmed39 U.vm ∧ U.heap = h0) (fun _ _ _ _ _ => True)
    (fun _ U o U' => ∃ v L, o = .returned v ∧ ((∃ σ', Q v σ' ∧ Sep Z n0 U'.heap σ') ∧ Fr n0 L) ∧ FrameEnd U o U' L rm.cells rm.slots)
section Rules
variable {l : Launch} {Z : State} {n0 : Nat} {B : Bdy} {R : Room} {Q : Option Value → Asn → Prop} {cells slots : Nat} {σ : Asn} {pc pc' : Nat} {ls ls' : Array Slot} {st st' rest : List Value} {a0 : Array Value}
theorem Sp.of {y : MethodName} {bytes : ByteArray} {maxL : Nat} {ret : Option FieldType} {as : List Value} (hpn : plainFor y = true) (hent : ∀ m, entryFrame m as.toArray maxL = mkF m 0 ls [])
    (k : W l Z n0 (y.cls, y.name, bytes, maxL, ret) R Q 0 0 σ 0 ls []) : Sp l Z n0 y bytes maxL ret R as σ Q := by
  intro ws h0 hS
  refine MetFree.of_bodySF hpn hisR ?_
  intro p e s m args below meth c s₁ Bd hml0 hP hK
  obtain ⟨rfl, hZ, hh⟩ := hP
  have e0 : s₁.heap = h0 := by rw [← hh, Bd.state]; rfl
  obtain ⟨u, o, h1, h2, h3, h4⟩ := k p e s m _ below meth c s₁ [] ⟨Bd.exec, Bd.bytes, hml0, findClass_of_methodNamed Bd.named, (name_of_methodNamed Bd.named Bd.method).1, hZ, Bd.returns, Bd.notSynchronized⟩ (Stand.of_body Bd) (Fr.nil n0) (by rw [e0]; exact hS)
  exact ⟨u, o, castTop (hent m) h1, h2, h3, h4⟩
theorem W.of (hstep : ∀ (p : Program) (e : Env) (s : State) (m : MethodId) (args : Array Value) (below : List Frame) (meth : Method) (c : Code) (T : State) (locs : List Loc), Cx p s m meth c Z B → Stand p l e R s m args below meth c T locs cells slots → ∀ t, Steps p.tables e below (T.setTop (mkF m pc' ls' st')) t → Steps p.tables e below (T.setTop (mkF m pc ls st)) t)
    (k : W l Z n0 B R Q cells slots σ pc' ls' st') : W l Z n0 B R Q cells slots σ pc ls st := by
  intro p e s m args below meth c T locs C X N S
  obtain ⟨u, o, h1, h2⟩ := k p e s m args below meth c T locs C X N S
  exact ⟨u, o, hstep p e s m args below meth c T locs C X u h1, h2⟩
theorem W.mono {Q' : Option Value → Asn → Prop} (hQ : ∀ v σ', Q v σ' → Q' v σ') (k : W l Z n0 B R Q cells slots σ pc ls st) : W l Z n0 B R Q' cells slots σ pc ls st := by
  intro p e s m args below meth c T locs C X N S
  obtain ⟨u, o, h1, h2, h3, v, L, h4, ⟨⟨σ', h5, h6⟩, h7⟩, h8⟩ := k p e s m args below meth c T locs C X N S
  exact ⟨u, o, h1, h2, h3, v, L, h4, ⟨⟨σ', hQ _ _ h5, h6⟩, h7⟩, h8⟩
theorem Sp.mono {y : MethodName} {bytes : ByteArray} {maxL : Nat} {ret : Option FieldType} {as : List Value} {Q' : Option Value → Asn → Prop} (hQ : ∀ v σ', Q v σ' → Q' v σ') (k : Sp l Z n0 y bytes maxL ret R as σ Q) : Sp l Z n0 y bytes maxL ret R as σ Q' := by
  intro ws h0 hS p e ha hc hk s m args below hf happ hP hK
  obtain ⟨n, o, h1, h2, h3, v, L, h4, ⟨⟨σ', h5, h6⟩, h7⟩, h8⟩ := k ws h0 hS p e ha hc hk s m args below hf happ hP hK
  exact ⟨n, o, h1, h2, h3, v, L, h4, ⟨⟨σ', hQ _ _ h5, h6⟩, h7⟩, h8⟩
/-! constants, loads, stores -/
theorem W.iconst (v : Int32) {i : Int} (hd : decode B.2.2.1 pc = .ok (.iconst i, 1)) (hp : pc + 1 = pc') (hv : Int32.ofInt i = v) (k : W l Z n0 B R Q cells slots σ pc' ls (.int v :: st)) : W l Z n0 B R Q cells slots σ pc ls st := by
  subst hp hv; exact W.of (fun p e s m args below meth c T locs C X t h => XS.iconst X.here C.1 rfl (hb C.2.1 hd) h) k
theorem W.bipush (v : Int32) {i : Int} (hd : decode B.2.2.1 pc = .ok (.bipush i, 2)) (hp : pc + 2 = pc') (hv : (Int8.ofInt i).toInt32 = v) (k : W l Z n0 B R Q cells slots σ pc' ls (.int v :: st)) : W l Z n0 B R Q cells slots σ pc ls st := by
  subst hp hv; exact W.of (fun p e s m args below meth c T locs C X t h => XS.bipush X.here C.1 rfl (hb C.2.1 hd) h) k
theorem W.sipush (v : Int32) {i : Int} (hd : decode B.2.2.1 pc = .ok (.sipush i, 3)) (hp : pc + 3 = pc') (hv : (Int16.ofInt i).toInt32 = v) (k : W l Z n0 B R Q cells slots σ pc' ls (.int v :: st)) : W l Z n0 B R Q cells slots σ pc ls st := by
  subst hp hv; exact W.of (fun p e s m args below meth c T locs C X t h => XS.sipush X.here C.1 rfl (hb C.2.1 hd) h) k
theorem W.lconst (v : Int64) {i : Fin 2} (hd : decode B.2.2.1 pc = .ok (.lconst i, 1)) (hp : pc + 1 = pc') (hv : Int64.ofNat i = v) (k : W l Z n0 B R Q cells slots σ pc' ls (.long v :: st)) : W l Z n0 B R Q cells slots σ pc ls st := by
  subst hp hv; exact W.of (fun p e s m args below meth c T locs C X t h => XT.lconst X.here C.1 rfl (hb C.2.1 hd) h) k
theorem W.aconstNull (hd : decode B.2.2.1 pc = .ok (.aconst_null, 1)) (hp : pc + 1 = pc') (k : W l Z n0 B R Q cells slots σ pc' ls (.null :: st)) : W l Z n0 B R Q cells slots σ pc ls st := by
  subst hp; exact W.of (fun p e s m args below meth c T locs C X t h => XS.aconstNull X.here C.1 rfl (hb C.2.1 hd) h) k
theorem W.ldcI {i : Nat} {v : Int32} (hd : decode B.2.2.1 pc = .ok (.ldc i, 2)) (w : (Jvm.Cond.constant B.1 i v).before a0 Z = true) (hp : pc + 2 = pc') (k : W l Z n0 B R Q cells slots σ pc' ls (.int v :: st)) : W l Z n0 B R Q cells slots σ pc ls st := by
  subst hp; exact W.of (fun p e s m args below meth c T locs C X t h => X.ldcI C.1 C.2.2.2.1 (mvT C.2.2.2.2.2.1 w) rfl (hb C.2.1 hd) h) k
theorem W.ldc2J {i : Nat} {v : Int64} (hd : decode B.2.2.1 pc = .ok (.ldc2_w i, 3)) (w : (Jvm.Cond.constantLong B.1 i v).before a0 Z = true) (hp : pc + 3 = pc') (k : W l Z n0 B R Q cells slots σ pc' ls (.long v :: st)) : W l Z n0 B R Q cells slots σ pc ls st := by
  subst hp; exact W.of (fun p e s m args below meth c T locs C X t h => X.ldc2J C.1 C.2.2.2.1 (mvT C.2.2.2.2.2.1 w) rfl (hb C.2.1 hd) h) k
theorem W.iloadN {i : Fin 4} {v : Int32} (hd : decode B.2.2.1 pc = .ok (.iload_n i, 1)) (hp : pc + 1 = pc') (hl : ls[i.val]? = some (.val (.int v))) (k : W l Z n0 B R Q cells slots σ pc' ls (.int v :: st)) : W l Z n0 B R Q cells slots σ pc ls st := by
  subst hp; exact W.of (fun p e s m args below meth c T locs C X t h => XS.iloadN X.here C.1 rfl (hb C.2.1 hd) hl h) k
theorem W.iload {i : Nat} {v : Int32} (hd : decode B.2.2.1 pc = .ok (.iload i, 2)) (hp : pc + 2 = pc') (hl : ls[i]? = some (.val (.int v))) (k : W l Z n0 B R Q cells slots σ pc' ls (.int v :: st)) : W l Z n0 B R Q cells slots σ pc ls st := by
  subst hp; exact W.of (fun p e s m args below meth c T locs C X t h => XS.iload X.here C.1 rfl (hb C.2.1 hd) hl h) k
theorem W.lloadN {i : Fin 4} {v : Int64} (hd : decode B.2.2.1 pc = .ok (.lload_n i, 1)) (hp : pc + 1 = pc') (hl : ls[i.val]? = some (.val (.long v))) (k : W l Z n0 B R Q cells slots σ pc' ls (.long v :: st)) : W l Z n0 B R Q cells slots σ pc ls st := by
  subst hp; exact W.of (fun p e s m args below meth c T locs C X t h => XT.lloadN X.here C.1 rfl (hb C.2.1 hd) hl h) k
theorem W.lload {i : Nat} {v : Int64} (hd : decode B.2.2.1 pc = .ok (.lload i, 2)) (hp : pc + 2 = pc') (hl : ls[i]? = some (.val (.long v))) (k : W l Z n0 B R Q cells slots σ pc' ls (.long v :: st)) : W l Z n0 B R Q cells slots σ pc ls st := by
  subst hp; exact W.of (fun p e s m args below meth c T locs C X t h => XT.lload X.here C.1 rfl (hb C.2.1 hd) hl h) k
theorem W.aloadN {i : Fin 4} {v : Value} (hd : decode B.2.2.1 pc = .ok (.aload_n i, 1)) (hp : pc + 1 = pc') (hl : ls[i.val]? = some (.val v)) (hv : v.isRef = true) (k : W l Z n0 B R Q cells slots σ pc' ls (v :: st)) : W l Z n0 B R Q cells slots σ pc ls st := by
  subst hp; exact W.of (fun p e s m args below meth c T locs C X t h => XS.aloadN X.here C.1 rfl (hb C.2.1 hd) hl hv h) k
theorem W.aload {i : Nat} {v : Value} (hd : decode B.2.2.1 pc = .ok (.aload i, 2)) (hp : pc + 2 = pc') (hl : ls[i]? = some (.val v)) (hv : v.isRef = true) (k : W l Z n0 B R Q cells slots σ pc' ls (v :: st)) : W l Z n0 B R Q cells slots σ pc ls st := by
  subst hp; exact W.of (fun p e s m args below meth c T locs C X t h => XS.aload X.here C.1 rfl (hb C.2.1 hd) hl hv h) k
theorem W.istoreN (ls' : Array Slot) {i : Fin 4} {v : Int32} (hd : decode B.2.2.1 pc = .ok (.istore_n i, 1)) (hp : pc + 1 = pc') (hl : storeLocals ls i.val (.int v) = some ls') (k : W l Z n0 B R Q cells slots σ pc' ls' st) : W l Z n0 B R Q cells slots σ pc ls (.int v :: st) := by
  subst hp; exact W.of (fun p e s m args below meth c T locs C X t h => XS.istoreN X.here C.1 rfl (hb C.2.1 hd) rfl hl h) k
theorem W.istore (ls' : Array Slot) {i : Nat} {v : Int32} (hd : decode B.2.2.1 pc = .ok (.istore i, 2)) (hp : pc + 2 = pc') (hl : storeLocals ls i (.int v) = some ls') (k : W l Z n0 B R Q cells slots σ pc' ls' st) : W l Z n0 B R Q cells slots σ pc ls (.int v :: st) := by
  subst hp; exact W.of (fun p e s m args below meth c T locs C X t h => XS.istore X.here C.1 rfl (hb C.2.1 hd) rfl hl h) k
theorem W.lstoreN (ls' : Array Slot) {i : Fin 4} {v : Int64} (hd : decode B.2.2.1 pc = .ok (.lstore_n i, 1)) (hp : pc + 1 = pc') (hl : storeLocals ls i.val (.long v) = some ls') (k : W l Z n0 B R Q cells slots σ pc' ls' st) : W l Z n0 B R Q cells slots σ pc ls (.long v :: st) := by
  subst hp; exact W.of (fun p e s m args below meth c T locs C X t h => XT.lstoreN X.here C.1 rfl (hb C.2.1 hd) rfl hl h) k
theorem W.lstore (ls' : Array Slot) {i : Nat} {v : Int64} (hd : decode B.2.2.1 pc = .ok (.lstore i, 2)) (hp : pc + 2 = pc') (hl : storeLocals ls i (.long v) = some ls') (k : W l Z n0 B R Q cells slots σ pc' ls' st) : W l Z n0 B R Q cells slots σ pc ls (.long v :: st) := by
  subst hp; exact W.of (fun p e s m args below meth c T locs C X t h => XT.lstore X.here C.1 rfl (hb C.2.1 hd) rfl hl h) k
theorem W.astoreN (ls' : Array Slot) {i : Fin 4} {v : Value} (hd : decode B.2.2.1 pc = .ok (.astore_n i, 1)) (hp : pc + 1 = pc') (hv : v.isRef = true) (hl : storeLocals ls i.val v = some ls') (k : W l Z n0 B R Q cells slots σ pc' ls' st) : W l Z n0 B R Q cells slots σ pc ls (v :: st) := by
  subst hp; exact W.of (fun p e s m args below meth c T locs C X t h => XS.astoreN X.here C.1 rfl (hb C.2.1 hd) rfl hv hl h) k
theorem W.astore (ls' : Array Slot) {i : Nat} {v : Value} (hd : decode B.2.2.1 pc = .ok (.astore i, 2)) (hp : pc + 2 = pc') (hv : v.isRef = true) (hl : storeLocals ls i v = some ls') (k : W l Z n0 B R Q cells slots σ pc' ls' st) : W l Z n0 B R Q cells slots σ pc ls (v :: st) := by
  subst hp; exact W.of (fun p e s m args below meth c T locs C X t h => XS.astore X.here C.1 rfl (hb C.2.1 hd) rfl hv hl h) k
theorem W.iinc (ls' : Array Slot) {i : Nat} {cst : Int} {x : Int32} (v y : Int32) (hd : decode B.2.2.1 pc = .ok (.iinc i cst, 3)) (hp : pc + 3 = pc') (hv : Int32.ofInt cst = v) (hx : ls[i]? = some (.val (.int x))) (hy : x + v = y) (hl : storeLocals ls i (.int y) = some ls') (k : W l Z n0 B R Q cells slots σ pc' ls' st) : W l Z n0 B R Q cells slots σ pc ls st := by
  subst hp hv hy; exact W.of (fun p e s m args below meth c T locs C X t h => XS.iinc X.here C.1 rfl (hb C.2.1 hd) hx hl h) k
theorem W.topI {x : Int32} (y : Int32) (h : x = y) (k : W l Z n0 B R Q cells slots σ pc ls (.int y :: st)) : W l Z n0 B R Q cells slots σ pc ls (.int x :: st) := h ▸ k
/-! arithmetic -/
theorem W.iadd {x : Int32} {y : Int32} (hd : decode B.2.2.1 pc = .ok (.iadd, 1)) (hp : pc + 1 = pc') (k : W l Z n0 B R Q cells slots σ pc' ls (.int (x + y) :: st)) : W l Z n0 B R Q cells slots σ pc ls (.int y :: .int x :: st) := by
  subst hp; exact W.of (fun p e s m args below meth c T locs C X t h => XS.iadd X.here C.1 rfl (hb C.2.1 hd) rfl h) k
theorem W.isub {x : Int32} {y : Int32} (hd : decode B.2.2.1 pc = .ok (.isub, 1)) (hp : pc + 1 = pc') (k : W l Z n0 B R Q cells slots σ pc' ls (.int (x - y) :: st)) : W l Z n0 B R Q cells slots σ pc ls (.int y :: .int x :: st) := by
  subst hp; exact W.of (fun p e s m args below meth c T locs C X t h => XS.isub X.here C.1 rfl (hb C.2.1 hd) rfl h) k
theorem W.imul {x : Int32} {y : Int32} (hd : decode B.2.2.1 pc = .ok (.imul, 1)) (hp : pc + 1 = pc') (k : W l Z n0 B R Q cells slots σ pc' ls (.int (x * y) :: st)) : W l Z n0 B R Q cells slots σ pc ls (.int y :: .int x :: st) := by
  subst hp; exact W.of (fun p e s m args below meth c T locs C X t h => XS.imul X.here C.1 rfl (hb C.2.1 hd) rfl h) k
theorem W.iand {x : Int32} {y : Int32} (hd : decode B.2.2.1 pc = .ok (.iand, 1)) (hp : pc + 1 = pc') (k : W l Z n0 B R Q cells slots σ pc' ls (.int (x &&& y) :: st)) : W l Z n0 B R Q cells slots σ pc ls (.int y :: .int x :: st) := by
  subst hp; exact W.of (fun p e s m args below meth c T locs C X t h => XS.iand X.here C.1 rfl (hb C.2.1 hd) rfl h) k
theorem W.ior {x : Int32} {y : Int32} (hd : decode B.2.2.1 pc = .ok (.ior, 1)) (hp : pc + 1 = pc') (k : W l Z n0 B R Q cells slots σ pc' ls (.int (x ||| y) :: st)) : W l Z n0 B R Q cells slots σ pc ls (.int y :: .int x :: st) := by
  subst hp; exact W.of (fun p e s m args below meth c T locs C X t h => XT.ior X.here C.1 rfl (hb C.2.1 hd) rfl h) k
theorem W.ixor {x : Int32} {y : Int32} (hd : decode B.2.2.1 pc = .ok (.ixor, 1)) (hp : pc + 1 = pc') (k : W l Z n0 B R Q cells slots σ pc' ls (.int (x ^^^ y) :: st)) : W l Z n0 B R Q cells slots σ pc ls (.int y :: .int x :: st) := by
  subst hp; exact W.of (fun p e s m args below meth c T locs C X t h => XT.ixor X.here C.1 rfl (hb C.2.1 hd) rfl h) k
theorem W.ishl {x : Int32} {y : Int32} (hd : decode B.2.2.1 pc = .ok (.ishl, 1)) (hp : pc + 1 = pc') (k : W l Z n0 B R Q cells slots σ pc' ls (.int (x <<< (y &&& 31)) :: st)) : W l Z n0 B R Q cells slots σ pc ls (.int y :: .int x :: st) := by
  subst hp; exact W.of (fun p e s m args below meth c T locs C X t h => XT.ishl X.here C.1 rfl (hb C.2.1 hd) rfl h) k
theorem W.ishr {x : Int32} {y : Int32} (hd : decode B.2.2.1 pc = .ok (.ishr, 1)) (hp : pc + 1 = pc') (k : W l Z n0 B R Q cells slots σ pc' ls (.int (x >>> (y &&& 31)) :: st)) : W l Z n0 B R Q cells slots σ pc ls (.int y :: .int x :: st) := by
  subst hp; exact W.of (fun p e s m args below meth c T locs C X t h => XT.ishr X.here C.1 rfl (hb C.2.1 hd) rfl h) k
theorem W.iushr {x : Int32} {y : Int32} (hd : decode B.2.2.1 pc = .ok (.iushr, 1)) (hp : pc + 1 = pc') (k : W l Z n0 B R Q cells slots σ pc' ls (.int (XT.ushr x y) :: st)) : W l Z n0 B R Q cells slots σ pc ls (.int y :: .int x :: st) := by
  subst hp; exact W.of (fun p e s m args below meth c T locs C X t h => XT.iushr X.here C.1 rfl (hb C.2.1 hd) rfl h) k
theorem W.ladd {x : Int64} {y : Int64} (hd : decode B.2.2.1 pc = .ok (.ladd, 1)) (hp : pc + 1 = pc') (k : W l Z n0 B R Q cells slots σ pc' ls (.long (x + y) :: st)) : W l Z n0 B R Q cells slots σ pc ls (.long y :: .long x :: st) := by
  subst hp; exact W.of (fun p e s m args below meth c T locs C X t h => XT.ladd X.here C.1 rfl (hb C.2.1 hd) rfl h) k
theorem W.lsub {x : Int64} {y : Int64} (hd : decode B.2.2.1 pc = .ok (.lsub, 1)) (hp : pc + 1 = pc') (k : W l Z n0 B R Q cells slots σ pc' ls (.long (x - y) :: st)) : W l Z n0 B R Q cells slots σ pc ls (.long y :: .long x :: st) := by
  subst hp; exact W.of (fun p e s m args below meth c T locs C X t h => XT.lsub X.here C.1 rfl (hb C.2.1 hd) rfl h) k
theorem W.lmul {x : Int64} {y : Int64} (hd : decode B.2.2.1 pc = .ok (.lmul, 1)) (hp : pc + 1 = pc') (k : W l Z n0 B R Q cells slots σ pc' ls (.long (x * y) :: st)) : W l Z n0 B R Q cells slots σ pc ls (.long y :: .long x :: st) := by
  subst hp; exact W.of (fun p e s m args below meth c T locs C X t h => XT.lmul X.here C.1 rfl (hb C.2.1 hd) rfl h) k
theorem W.land {x : Int64} {y : Int64} (hd : decode B.2.2.1 pc = .ok (.land, 1)) (hp : pc + 1 = pc') (k : W l Z n0 B R Q cells slots σ pc' ls (.long (x &&& y) :: st)) : W l Z n0 B R Q cells slots σ pc ls (.long y :: .long x :: st) := by
  subst hp; exact W.of (fun p e s m args below meth c T locs C X t h => XT.land X.here C.1 rfl (hb C.2.1 hd) rfl h) k
theorem W.lor {x : Int64} {y : Int64} (hd : decode B.2.2.1 pc = .ok (.lor, 1)) (hp : pc + 1 = pc') (k : W l Z n0 B R Q cells slots σ pc' ls (.long (x ||| y) :: st)) : W l Z n0 B R Q cells slots σ pc ls (.long y :: .long x :: st) := by
  subst hp; exact W.of (fun p e s m args below meth c T locs C X t h => XT.lor X.here C.1 rfl (hb C.2.1 hd) rfl h) k
theorem W.lxor {x : Int64} {y : Int64} (hd : decode B.2.2.1 pc = .ok (.lxor, 1)) (hp : pc + 1 = pc') (k : W l Z n0 B R Q cells slots σ pc' ls (.long (x ^^^ y) :: st)) : W l Z n0 B R Q cells slots σ pc ls (.long y :: .long x :: st) := by
  subst hp; exact W.of (fun p e s m args below meth c T locs C X t h => XT.lxor X.here C.1 rfl (hb C.2.1 hd) rfl h) k
theorem W.lushr {x : Int64} {y : Int32} (hd : decode B.2.2.1 pc = .ok (.lushr, 1)) (hp : pc + 1 = pc') (k : W l Z n0 B R Q cells slots σ pc' ls (.long (XT.ushrL x y) :: st)) : W l Z n0 B R Q cells slots σ pc ls (.int y :: .long x :: st) := by
  subst hp; exact W.of (fun p e s m args below meth c T locs C X t h => XT.lushr X.here C.1 rfl (hb C.2.1 hd) rfl h) k
theorem W.lshl {x : Int64} {y : Int32} (hd : decode B.2.2.1 pc = .ok (.lshl, 1)) (hp : pc + 1 = pc') (k : W l Z n0 B R Q cells slots σ pc' ls (.long (x <<< (y.toInt64 &&& 63)) :: st)) : W l Z n0 B R Q cells slots σ pc ls (.int y :: .long x :: st) := by
  subst hp; exact W.of (fun p e s m args below meth c T locs C X t h => XT.lshl X.here C.1 rfl (hb C.2.1 hd) rfl h) k
theorem W.lcmp {x : Int64} {y : Int64} (hd : decode B.2.2.1 pc = .ok (.lcmp, 1)) (hp : pc + 1 = pc') (k : W l Z n0 B R Q cells slots σ pc' ls (.int (XT.cmpL x y) :: st)) : W l Z n0 B R Q cells slots σ pc ls (.long y :: .long x :: st) := by
  subst hp; exact W.of (fun p e s m args below meth c T locs C X t h => XT.lcmp X.here C.1 rfl (hb C.2.1 hd) rfl h) k
theorem W.i2l {x : Int32} (hd : decode B.2.2.1 pc = .ok (.i2l, 1)) (hp : pc + 1 = pc') (k : W l Z n0 B R Q cells slots σ pc' ls (.long (x.toInt64) :: st)) : W l Z n0 B R Q cells slots σ pc ls (.int x :: st) := by
  subst hp; exact W.of (fun p e s m args below meth c T locs C X t h => XT.i2l X.here C.1 rfl (hb C.2.1 hd) rfl h) k
theorem W.l2i {x : Int64} (hd : decode B.2.2.1 pc = .ok (.l2i, 1)) (hp : pc + 1 = pc') (k : W l Z n0 B R Q cells slots σ pc' ls (.int (x.toInt32) :: st)) : W l Z n0 B R Q cells slots σ pc ls (.long x :: st) := by
  subst hp; exact W.of (fun p e s m args below meth c T locs C X t h => XT.l2i X.here C.1 rfl (hb C.2.1 hd) rfl h) k
theorem W.i2b {x : Int32} (hd : decode B.2.2.1 pc = .ok (.i2b, 1)) (hp : pc + 1 = pc') (k : W l Z n0 B R Q cells slots σ pc' ls (.int (x.toInt8.toInt32) :: st)) : W l Z n0 B R Q cells slots σ pc ls (.int x :: st) := by
  subst hp; exact W.of (fun p e s m args below meth c T locs C X t h => XT.i2b X.here C.1 rfl (hb C.2.1 hd) rfl h) k
theorem W.i2c {x : Int32} (hd : decode B.2.2.1 pc = .ok (.i2c, 1)) (hp : pc + 1 = pc') (k : W l Z n0 B R Q cells slots σ pc' ls (.int (x.toUInt32.toUInt16.toUInt32.toInt32) :: st)) : W l Z n0 B R Q cells slots σ pc ls (.int x :: st) := by
  subst hp; exact W.of (fun p e s m args below meth c T locs C X t h => XT.i2c X.here C.1 rfl (hb C.2.1 hd) rfl h) k
theorem W.idiv {x y : Int32} (hd : decode B.2.2.1 pc = .ok (.idiv, 1)) (hp : pc + 1 = pc') (hy : y ≠ 0) (k : W l Z n0 B R Q cells slots σ pc' ls (.int (x / y) :: st)) : W l Z n0 B R Q cells slots σ pc ls (.int y :: .int x :: st) := by
  subst hp; exact W.of (fun p e s m args below meth c T locs C X t h => XS.idiv X.here C.1 rfl (hb C.2.1 hd) rfl hy h) k
theorem W.irem {x y : Int32} (hd : decode B.2.2.1 pc = .ok (.irem, 1)) (hp : pc + 1 = pc') (hy : y ≠ 0) (k : W l Z n0 B R Q cells slots σ pc' ls (.int (x % y) :: st)) : W l Z n0 B R Q cells slots σ pc ls (.int y :: .int x :: st) := by
  subst hp; exact W.of (fun p e s m args below meth c T locs C X t h => iremM X C.1 rfl (hb C.2.1 hd) rfl hy h) k
theorem W.dup {x : Value} (hd : decode B.2.2.1 pc = .ok (.dup, 1)) (hp : pc + 1 = pc') (hc : x.category = 1) (k : W l Z n0 B R Q cells slots σ pc' ls (x :: x :: st)) : W l Z n0 B R Q cells slots σ pc ls (x :: st) := by
  subst hp; exact W.of (fun p e s m args below meth c T locs C X t h => XS.dup X.here C.1 rfl (hb C.2.1 hd) rfl hc h) k
theorem W.pop {x : Value} (hd : decode B.2.2.1 pc = .ok (.pop, 1)) (hp : pc + 1 = pc') (hc : x.category = 1) (k : W l Z n0 B R Q cells slots σ pc' ls st) : W l Z n0 B R Q cells slots σ pc ls (x :: st) := by
  subst hp; exact W.of (fun p e s m args below meth c T locs C X t h => XT.pop X.here C.1 rfl (hb C.2.1 hd) rfl hc h) k
theorem W.dupX1 {x y : Value} (hd : decode B.2.2.1 pc = .ok (.dup_x1, 1)) (hp : pc + 1 = pc') (hc : x.category = 1) (hc' : y.category = 1) (k : W l Z n0 B R Q cells slots σ pc' ls (x :: y :: x :: st)) : W l Z n0 B R Q cells slots σ pc ls (x :: y :: st) := by
  subst hp; exact W.of (fun p e s m args below meth c T locs C X t h => XT.dupX1 X.here C.1 rfl (hb C.2.1 hd) rfl hc hc' h) k
/-! branches -/
theorem W.goto {o : Int} (hd : decode B.2.2.1 pc = .ok (.goto o, 3)) (ho : 0 ≤ (pc : Int) + o) (hp : ((pc : Int) + o).toNat = pc') (k : W l Z n0 B R Q cells slots σ pc' ls st) : W l Z n0 B R Q cells slots σ pc ls st :=
  W.of (fun p e s m args below meth c T locs C X t h => XS.goto X.here C.1 rfl rfl (hb C.2.1 hd) ho hp h) k
theorem W.ifY {cd : ClassFile.Cond} {x : Int32} {o : Int} (hd : decode B.2.2.1 pc = .ok (.ifCond cd o, 3)) (hc : ifCond.holds cd x = true) (ho : 0 ≤ (pc : Int) + o) (hp : ((pc : Int) + o).toNat = pc') (k : W l Z n0 B R Q cells slots σ pc' ls st) : W l Z n0 B R Q cells slots σ pc ls (.int x :: st) :=
  W.of (fun p e s m args below meth c T locs C X t h => XS.ifYes X.here C.1 rfl rfl (hb C.2.1 hd) rfl hc ho hp h) k
theorem W.ifN {cd : ClassFile.Cond} {x : Int32} {o : Int} (hd : decode B.2.2.1 pc = .ok (.ifCond cd o, 3)) (hc : ifCond.holds cd x = false) (hp : pc + 3 = pc') (k : W l Z n0 B R Q cells slots σ pc' ls st) : W l Z n0 B R Q cells slots σ pc ls (.int x :: st) := by
  subst hp; exact W.of (fun p e s m args below meth c T locs C X t h => XS.ifNo X.here C.1 rfl (hb C.2.1 hd) rfl hc h) k
theorem W.icmpY {cd : ClassFile.Cond} {x y : Int32} {o : Int} (hd : decode B.2.2.1 pc = .ok (.if_icmp cd o, 3)) (hc : if_icmp.holds cd x y = true) (ho : 0 ≤ (pc : Int) + o) (hp : ((pc : Int) + o).toNat = pc') (k : W l Z n0 B R Q cells slots σ pc' ls st) : W l Z n0 B R Q cells slots σ pc ls (.int y :: .int x :: st) :=
  W.of (fun p e s m args below meth c T locs C X t h => XS.icmpYes X.here C.1 rfl rfl (hb C.2.1 hd) rfl hc ho hp h) k
theorem W.icmpN {cd : ClassFile.Cond} {x y : Int32} {o : Int} (hd : decode B.2.2.1 pc = .ok (.if_icmp cd o, 3)) (hc : if_icmp.holds cd x y = false) (hp : pc + 3 = pc') (k : W l Z n0 B R Q cells slots σ pc' ls st) : W l Z n0 B R Q cells slots σ pc ls (.int y :: .int x :: st) := by
  subst hp; exact W.of (fun p e s m args below meth c T locs C X t h => XS.icmpNo X.here C.1 rfl (hb C.2.1 hd) rfl hc h) k
theorem W.acmpY {cd : ClassFile.ACond} {x y : Value} {o : Int} (hd : decode B.2.2.1 pc = .ok (.if_acmp cd o, 3)) (hx : x.isRef = true) (hy : y.isRef = true) (hc : XT.acmp cd x y = true) (ho : 0 ≤ (pc : Int) + o) (hp : ((pc : Int) + o).toNat = pc') (k : W l Z n0 B R Q cells slots σ pc' ls st) : W l Z n0 B R Q cells slots σ pc ls (y :: x :: st) :=
  W.of (fun p e s m args below meth c T locs C X t h => XT.acmpYes X.here C.1 rfl rfl (hb C.2.1 hd) rfl hx hy hc ho hp h) k
theorem W.acmpN {cd : ClassFile.ACond} {x y : Value} {o : Int} (hd : decode B.2.2.1 pc = .ok (.if_acmp cd o, 3)) (hx : x.isRef = true) (hy : y.isRef = true) (hc : XT.acmp cd x y = false) (hp : pc + 3 = pc') (k : W l Z n0 B R Q cells slots σ pc' ls st) : W l Z n0 B R Q cells slots σ pc ls (y :: x :: st) := by
  subst hp; exact W.of (fun p e s m args below meth c T locs C X t h => XT.acmpNo X.here C.1 rfl (hb C.2.1 hd) rfl hx hy hc h) k
theorem W.nullY {o : Int} (hd : decode B.2.2.1 pc = .ok (.ifnull o, 3)) (ho : 0 ≤ (pc : Int) + o) (hp : ((pc : Int) + o).toNat = pc') (k : W l Z n0 B R Q cells slots σ pc' ls st) : W l Z n0 B R Q cells slots σ pc ls (.null :: st) :=
  W.of (fun p e s m args below meth c T locs C X t h => XS.ifnullYes X.here C.1 rfl rfl (hb C.2.1 hd) rfl ho hp h) k
theorem W.nullN {a : Addr} {o : Int} (hd : decode B.2.2.1 pc = .ok (.ifnull o, 3)) (hp : pc + 3 = pc') (k : W l Z n0 B R Q cells slots σ pc' ls st) : W l Z n0 B R Q cells slots σ pc ls (.ref a :: st) := by
  subst hp; exact W.of (fun p e s m args below meth c T locs C X t h => XS.ifnullNo X.here C.1 rfl (hb C.2.1 hd) rfl h) k
theorem W.nonnullY {a : Addr} {o : Int} (hd : decode B.2.2.1 pc = .ok (.ifnonnull o, 3)) (ho : 0 ≤ (pc : Int) + o) (hp : ((pc : Int) + o).toNat = pc') (k : W l Z n0 B R Q cells slots σ pc' ls st) : W l Z n0 B R Q cells slots σ pc ls (.ref a :: st) :=
  W.of (fun p e s m args below meth c T locs C X t h => XT.ifnonnullYes X.here C.1 rfl rfl (hb C.2.1 hd) rfl ho hp h) k
theorem W.nonnullN {o : Int} (hd : decode B.2.2.1 pc = .ok (.ifnonnull o, 3)) (hp : pc + 3 = pc') (k : W l Z n0 B R Q cells slots σ pc' ls st) : W l Z n0 B R Q cells slots σ pc ls (.null :: st) := by
  subst hp; exact W.of (fun p e s m args below meth c T locs C X t h => XT.ifnonnullNo X.here C.1 rfl (hb C.2.1 hd) rfl h) k
/-! returns -/
theorem W.fin {v : Option Value} (hv : B.2.2.2.2 = none → v = none) (hc : cells ≤ R.cells) (hs : slots ≤ R.slots) (hQ : Q v σ)
    (hstep : ∀ (p : Program) (e : Env) (s : State) (m : MethodId) (args : Array Value) (below : List Frame) (meth : Method) (c : Code) (T : State) (locs : List Loc), Cx p s m meth c Z B → Stand p l e R s m args below meth c T locs cells slots → ∀ fs, (∀ (f : JFrame) (acts : List Action), f.method = m → f.locked = none → f.entered = [] → (doReturn e (T.setTop f) acts v).1 = T.setFrames fs) → Steps p.tables e below (T.setTop (mkF m pc ls st)) (T.setFrames fs)) :
    W l Z n0 B R Q cells slots σ pc ls st := by
  intro p e s m args below meth c T locs C X N S
  obtain ⟨fs, hr, hrun, hended, hW, hsame⟩ := X.leave (v := v) (fun h => hv (C.2.2.2.2.2.2.1.symm.trans h)) C.2.2.2.2.2.2.2
  exact ⟨_, _, hstep p e s m args below meth c T locs C X fs hr, hrun, hended, v, locs, rfl, ⟨⟨σ, hQ, S⟩, N⟩, ⟨_, rfl⟩, hW, hsame.mono hc hs⟩
theorem W.retN {t : FieldType} {z : Int32} (z' : Int32) (hd : decode B.2.2.1 pc = .ok (.ireturn, 1)) (hr : B.2.2.2.2 = some t) (ht : t = .boolean ∨ t = .byte ∨ t = .char ∨ t = .short) (hz : nar t z = z') (hc : cells ≤ R.cells) (hs : slots ≤ R.slots) (hQ : Q (some (.int z')) σ) : W l Z n0 B R Q cells slots σ pc ls (.int z :: st) := by
  subst hz; exact W.fin (fun h => by rw [hr] at h; cases h) hc hs hQ (fun p e s m args below meth c T locs C X fs h => RoadKit.retN X C.1 (C.2.2.2.2.2.2.1.trans hr) ht (hb C.2.1 hd) h)
theorem W.retI {z : Int32} (hd : decode B.2.2.1 pc = .ok (.ireturn, 1)) (hr : B.2.2.2.2 = some .int) (hc : cells ≤ R.cells) (hs : slots ≤ R.slots) (hQ : Q (some (.int z)) σ) : W l Z n0 B R Q cells slots σ pc ls (.int z :: st) :=
  W.fin (fun h => by rw [hr] at h; cases h) hc hs hQ (fun p e s m args below meth c T locs C X fs h => retOut X C.1 (t := .int) (C.2.2.2.2.2.2.1.trans hr) rfl (Or.inl ⟨rfl, Or.inl rfl, _, rfl⟩) (hb C.2.1 hd) h)
theorem W.retJ {z : Int64} (hd : decode B.2.2.1 pc = .ok (.lreturn, 1)) (hr : B.2.2.2.2 = some .long) (hc : cells ≤ R.cells) (hs : slots ≤ R.slots) (hQ : Q (some (.long z)) σ) : W l Z n0 B R Q cells slots σ pc ls (.long z :: st) :=
  W.fin (fun h => by rw [hr] at h; cases h) hc hs hQ (fun p e s m args below meth c T locs C X fs h => retOut X C.1 (t := .long) (C.2.2.2.2.2.2.1.trans hr) rfl (Or.inr (Or.inl ⟨rfl, rfl, _, rfl⟩)) (hb C.2.1 hd) h)
theorem W.retA {t : FieldType} {v : Value} (hd : decode B.2.2.1 pc = .ok (.areturn, 1)) (hr : B.2.2.2.2 = some t) (ht : t.isReference = true) (hn : narrow t v = v) (hv : v.isRef = true) (hc : cells ≤ R.cells) (hs : slots ≤ R.slots) (hQ : Q (some v) σ) : W l Z n0 B R Q cells slots σ pc ls (v :: st) :=
  W.fin (fun h => by rw [hr] at h; cases h) hc hs hQ (fun p e s m args below meth c T locs C X fs h => retOut X C.1 (t := t) (C.2.2.2.2.2.2.1.trans hr) hn (Or.inr (Or.inr (Or.inr (Or.inr ⟨rfl, ht, hv⟩)))) (hb C.2.1 hd) h)
theorem W.retV (hd : decode B.2.2.1 pc = .ok (.return_, 1)) (hr : B.2.2.2.2 = none) (hc : cells ≤ R.cells) (hs : slots ≤ R.slots) (hQ : Q none σ) : W l Z n0 B R Q cells slots σ pc ls [] :=
  W.fin (fun _ => rfl) hc hs hQ (fun p e s m args below meth c T locs C X fs h => X.returnOut C.1 (C.2.2.2.2.2.2.1.trans hr) (hb C.2.1 hd) h)
/-! calls -/
theorem W.back {y : MethodName} {bytes : ByteArray} {maxL : Nat} {ret : Option FieldType} {rm : Room} {as : List Value} {Qc : Option Value → Asn → Prop} {len Wd : Nat} (hS : Sp l Z n0 y bytes maxL ret rm as σ Qc) {h : Heap} (hsep : Sep Z n0 h σ)
    {p : Program} {e : Env} {below : List Frame} {s : State} {args : Array Value} (hZ : Z.Warmed39 s.vm) (wc : (Jvm.Cond.code y bytes maxL ret).before a0 Z = true) (wz : (Jvm.Cond.initialized y.cls).before a0 Z = true) (hf : rm.frames + 1 ≤ R.frames) (hl : Wd + (maxL + 11) + rm.locals ≤ R.locals) :
    Back l R p e below s args y len Wd (fun A a => a = as.toArray ∧ A.U.heap = h ∧ A.cells + rm.cells ≤ R.cells ∧ A.slots + rm.slots ≤ R.slots)
      (fun A _ v B => ∃ L, ((∃ σ', Qc v σ' ∧ Sep Z n0 B.U.heap σ') ∧ Fr n0 L) ∧ B.locs = A.locs ++ L ∧ B.cells = A.cells + rm.cells ∧ B.slots = A.slots + rm.slots) :=
  backOf (Q := fun v h' L => (∃ σ', Qc v σ' ∧ Sep Z n0 h' σ') ∧ Fr n0 L) (hS [] h hsep) hZ wc wz hf hl
theorem W.callS {y : MethodName} {bytes : ByteArray} {maxL : Nat} {ret : Option FieldType} {rm : Room} {as : List Value} {Qc : Option Value → Asn → Prop} {i : Nat} {sg : MethodDescriptor} (hS : Sp l Z n0 y bytes maxL ret rm as σ Qc)
    (hd : decode B.2.2.1 pc = .ok (.invokestatic i, 3)) (w1 : (Jvm.Cond.methodLink B.1 i y).before a0 Z = true) (w2 : (Jvm.Cond.static y).before a0 Z = true) (wz : (Jvm.Cond.initialized y.cls).before a0 Z = true) (wc : (Jvm.Cond.code y bytes maxL ret).before a0 Z = true)
    (hy : y.cls ≠ "java/lang/invoke/MethodHandle" ∧ y.cls ≠ "java/lang/invoke/VarHandle") (hsg : parseMethodDescriptor y.desc = some sg) (hln : as.length = sg.parameters.length) (hst : st = as.reverse ++ rest)
    (hf : rm.frames + 1 ≤ R.frames) (hl : (rest.map fun v => v.category).sum + (maxL + 11) + rm.locals ≤ R.locals) (hc : cells + rm.cells ≤ R.cells) (hs : slots + rm.slots ≤ R.slots) (hsz : ls.size = B.2.2.2.1) (hp : pc + 3 = pc')
    (k : ∀ v σ', Qc v σ' → W l Z n0 B R Q (cells + rm.cells) (slots + rm.slots) σ' pc' ls (v.toList ++ rest)) : W l Z n0 B R Q cells slots σ pc ls st := by
  subst hp
  intro p e s m args below meth c T locs C X N S
  obtain ⟨hx, hby, hml, hown, hnm, hZ, hrt, hlk⟩ := C
  obtain ⟨v, _, ⟨T8, L8, k8, n8⟩, -, X8, ⟨Lc8, ⟨⟨σ', hQ8, hS8⟩, hF8⟩, l8, y8, z8⟩, st8⟩ := Jvm.LawKit.callS X hx (y := y) hown (mvT hZ w1) (mvT hZ w2) (mvT hZ wz) (mvT hZ wc) hy (W.back (a0 := a0) hS S hZ wc wz hf hl) (g := (mkF m pc ls st)) rfl (by rw [hml]; exact hsz) (argsL := as) (rest := rest) (lenOf hsg hln) hst (by show 2 * 0 + _ ≤ _; omega) (hb hby hd) (fun _ _ => ⟨rfl, rfl, hc, hs⟩)
  dsimp only [Pt.U, Pt.locs, Pt.cells, Pt.slots] at X8 l8 y8 z8 st8 hS8
  subst l8 y8 z8
  obtain ⟨u, o, h1, h2⟩ := k v σ' hQ8 p e s m args below meth c T8 _ ⟨hx, hby, hml, hown, hnm, hZ, hrt, hlk⟩ X8 (N.app hF8) hS8
  exact ⟨u, o, st8 _ h1, h2⟩
end Rules
/-! OWN FRAMEWORK, part 2: the heap -/
def ObjP (Z : State) (C : String) (fs : List (String × String × String × Value)) (c : Cell) : Prop :=
  Exa Z #[c] 0 C ∧ (∀ f ∈ fs, Fld Z #[c] 0 f.1 f.2.1 f.2.2.1 f.2.2.2) ∧ fs.Pairwise (fun f f' => RoadKit.slotOf Z f.1 f.2.1 f.2.2.1 ≠ RoadKit.slotOf Z f'.1 f'.2.1 f'.2.2.1)
def IA (Z : State) (ty : FieldType) (xs : List Int32) (c : Cell) : Prop := Z.isArrayOf c ty ∧ c.vm ≠ .unknown ∧ c.slots.toList = xs.map Value.int
def LA (Z : State) (xs : List Int64) (c : Cell) : Prop := Z.isArrayOf c .long ∧ c.vm ≠ .unknown ∧ c.slots.toList = xs.map Value.long
def LaidL (Z : State) (a0 : Array Value) (C : String) : List (String × String × String × Value) → Prop
  | [] => True
  | f :: fs => (Laid Z a0 C f.1 f.2.1 f.2.2.1 ∧ ∃ ty, parseFieldDescriptor f.2.2.1 = some ty ∧ f.2.2.2 = defaultValue ty) ∧ LaidL Z a0 C fs
section Heap
variable {Z : State} {n0 : Nat} {h h' : Heap} {σ σ' : Asn} {a b : Addr} {P P' : Cell → Prop} {i j : Nat} {c : Cell} {C n d : String} {v : Value} {sl : Nat}
theorem fld_out (F : Fld Z #[c] 0 C n d v) (q : h[a]? = some c) : Fld Z h a C n d v := by
  obtain ⟨cell, cf, k, i, f, h1, r⟩ := F
  obtain rfl : c = cell := by simpa using h1
  exact ⟨c, cf, k, i, f, q, r⟩
theorem fld_in (F : Fld Z h a C n d v) (q : h[a]? = some c) : Fld Z #[c] 0 C n d v := by
  obtain ⟨cell, cf, k, i, f, h1, r⟩ := F
  cases q.symm.trans h1
  exact ⟨c, cf, k, i, f, rfl, r⟩
theorem exa_out (F : Exa Z #[c] 0 C) (q : h[a]? = some c) : Exa Z h a C := by
  obtain ⟨cell, k, h1, r⟩ := F
  obtain rfl : c = cell := by simpa using h1
  exact ⟨c, k, q, r⟩
theorem exa_in (F : Exa Z h a C) (q : h[a]? = some c) : Exa Z #[c] 0 C := by
  obtain ⟨cell, k, h1, r⟩ := F
  cases q.symm.trans h1
  exact ⟨c, k, rfl, r⟩
theorem Sep.get (S : Sep Z n0 h σ) (hi : σ[i]? = some (a, P)) : n0 ≤ a ∧ ∃ c : Cell, h[a]? = some c ∧ P c := S.2.1 _ (List.mem_of_getElem? hi)
theorem Sep.ne (S : Sep Z n0 h σ) (hi : σ[i]? = some (a, P)) (hj : σ[j]? = some (b, P')) (hij : i ≠ j) : a ≠ b := by
  have hi' : (σ.map (fun x => x.1))[i]? = some a := by simp [hi]
  have hj' : (σ.map (fun x => x.1))[j]? = some b := by simp [hj]
  obtain ⟨l1, e1⟩ := List.getElem?_eq_some_iff.mp hi'
  obtain ⟨l2, e2⟩ := List.getElem?_eq_some_iff.mp hj'
  have hN := List.pairwise_iff_getElem.mp S.2.2
  rcases Nat.lt_or_gt_of_ne hij with q | q
  · have := hN i j l1 l2 q; rwa [e1, e2] at this
  · have := hN j i l2 l1 q; rw [e1, e2] at this; exact fun z => this z.symm
theorem Sep.lt (S : Sep Z n0 h σ) (hi : σ[i]? = some (a, P)) : a < h.size := by
  obtain ⟨-, c, hc, -⟩ := S.get hi
  exact (Array.getElem?_eq_some_iff.mp hc).1
theorem Sep.set (S : Sep Z n0 h σ) (hi : σ[i]? = some (a, P)) (hW : Wr h h' a sl v) (hP : ∀ c : Cell, h[a]? = some c → P c → P' (c.setSlot sl v)) : Sep Z n0 h' (σ.set i (a, P')) := by
  obtain ⟨hn, c, hc, hp⟩ := S.get hi
  refine ⟨S.1.wr hW hn, ?_, ?_⟩
  · intro x hx
    obtain ⟨j, hj⟩ := List.mem_iff_getElem?.mp hx
    by_cases hij : i = j
    · subst hij
      have hlt := (List.getElem?_eq_some_iff.mp hi).1
      rw [List.getElem?_set_self hlt] at hj
      cases hj
      obtain ⟨c', e1, -, -, -, -, -, e7⟩ := wr_at hW hc
      exact ⟨hn, c.setSlot sl v, by rw [← (e7 rfl).1]; exact e1, hP c hc hp⟩
    · rw [List.getElem?_set_ne hij] at hj
      obtain ⟨xb, xP⟩ := x
      obtain ⟨hn2, c2, hc2, hp2⟩ := S.get hj
      have hne := S.ne hj hi (Ne.symm hij)
      obtain ⟨c', e1, -, -, -, e5, -⟩ := wr_at hW hc2
      exact ⟨hn2, c2, by rw [← e5 hne]; exact e1, hp2⟩
  · have e : (σ.set i (a, P')).map (fun x => x.1) = σ.map (fun x => x.1) := by
      apply List.ext_getElem?
      intro j
      simp only [List.getElem?_map]
      by_cases hij : i = j
      · subst hij
        rw [List.getElem?_set_self (List.getElem?_eq_some_iff.mp hi).1, hi]; rfl
      · rw [List.getElem?_set_ne hij]
    rw [e]; exact S.2.2
theorem Sep.ext (S : Sep Z n0 h σ) (E : Ext h h') : Sep Z n0 h' σ := ⟨S.1.ext E, fun x hx => by obtain ⟨q1, c, q2, q3⟩ := S.2.1 x hx; exact ⟨q1, c, E.2 _ _ q2, q3⟩, S.2.2⟩
theorem Sep.size (S : Sep Z n0 h σ) : n0 ≤ h.size := by rw [← S.1.1]; exact S.1.2.1
theorem Sep.new (S : Sep Z n0 h σ) (E : Ext h h') (hc : h'[h.size]? = some c) (hP : P c) : Sep Z n0 h' ((h.size, P) :: σ) := by
  refine ⟨S.1.ext E, fun x hx => ?_, ?_⟩
  · rcases List.mem_cons.mp hx with rfl | q
    · exact ⟨S.size, c, hc, hP⟩
    · exact (S.ext E).2.1 x q
  · rw [List.map_cons, List.nodup_cons]
    refine ⟨fun q => ?_, S.2.2⟩
    obtain ⟨x, hx, e⟩ := List.mem_map.mp q
    obtain ⟨-, c', hc', -⟩ := S.2.1 x hx
    exact absurd e (Nat.ne_of_lt (Array.getElem?_eq_some_iff.mp hc').1)
theorem Sep.perm (S : Sep Z n0 h σ) (hp : σ.Perm σ') : Sep Z n0 h σ' := ⟨S.1, fun x hx => S.2.1 x (hp.mem_iff.mpr hx), (hp.map (fun x => x.1)).nodup_iff.mp S.2.2⟩
theorem Sep.pull {x : Addr × (Cell → Prop)} (S : Sep Z n0 h σ) (hi : σ[i]? = some x) : Sep Z n0 h (x :: σ.eraseIdx i) := by
  obtain ⟨l1, e1⟩ := List.getElem?_eq_some_iff.mp hi
  subst e1
  refine S.perm ?_
  have e : σ = σ.take i ++ σ[i] :: σ.drop (i + 1) := by rw [← List.drop_eq_getElem_cons l1, List.take_append_drop]
  rw [List.eraseIdx_eq_take_drop_succ]
  conv => lhs; rw [e]
  exact List.perm_middle
theorem Sep.sub (S : Sep Z n0 h σ) (hs : σ'.Sublist σ) : Sep Z n0 h σ' := ⟨S.1, fun x hx => S.2.1 x (hs.subset hx), List.Nodup.sublist (hs.map (fun x => x.1)) S.2.2⟩
theorem ObjP.put {fs : List (String × String × String × Value)} {O nm ds : String} {old : Value} (H : ObjP Z C fs c) (hf : fs[j]? = some (O, nm, ds, old)) (q : h[a]? = some c) (W : Wr h h' a (RoadKit.slotOf Z O nm ds) v) : ObjP Z C (fs.set j (O, nm, ds, v)) (c.setSlot (RoadKit.slotOf Z O nm ds) v) := by
  obtain ⟨h1, h2, h3⟩ := H
  obtain ⟨c', e1, -, -, -, -, -, e7⟩ := wr_at W q
  have q' : h'[a]? = some (c.setSlot (RoadKit.slotOf Z O nm ds) v) := by rw [← (e7 rfl).1]; exact e1
  have hlt := (List.getElem?_eq_some_iff.mp hf).1
  refine ⟨exa_in ((exa_out h1 q).wr W) q', ?_, ?_⟩
  · intro f hfm
    obtain ⟨i, hi⟩ := List.mem_iff_getElem?.mp hfm
    by_cases hij : j = i
    · subst hij
      rw [List.getElem?_set_self hlt] at hi
      cases hi
      exact fld_in ((fld_out (h2 _ (List.mem_of_getElem? hf)) q).same W) q'
    · rw [List.getElem?_set_ne hij] at hi
      refine fld_in ((fld_out (h2 _ (List.mem_of_getElem? hi)) q).other W (Or.inr ?_)) q'
      obtain ⟨l1, r1⟩ := List.getElem?_eq_some_iff.mp hf
      obtain ⟨l2, r2⟩ := List.getElem?_eq_some_iff.mp hi
      have hN := List.pairwise_iff_getElem.mp h3
      rcases Nat.lt_or_gt_of_ne hij with z | z
      · have := hN j i l1 l2 z; rw [r1, r2] at this; exact fun y => this y.symm
      · have := hN i j l2 l1 z; rwa [r1, r2] at this
  · refine List.pairwise_iff_getElem.mpr fun i k hi hk hik => ?_
    have hN := List.pairwise_iff_getElem.mp h3
    have sl_eq : ∀ t (ht : t < (fs.set j (O, nm, ds, v)).length) (ht' : t < fs.length), RoadKit.slotOf Z (fs.set j (O, nm, ds, v))[t].1 (fs.set j (O, nm, ds, v))[t].2.1 (fs.set j (O, nm, ds, v))[t].2.2.1 = RoadKit.slotOf Z fs[t].1 fs[t].2.1 fs[t].2.2.1 := by
      intro t ht ht'
      rw [List.getElem_set]
      split
      · rename_i e; subst e
        have := (List.getElem?_eq_some_iff.mp hf).2
        rw [this]
      · rfl
    have hi' : i < fs.length := by simpa using hi
    have hk' : k < fs.length := by simpa using hk
    rw [sl_eq i hi hi', sl_eq k hk hk']
    exact hN i k hi' hk' hik
theorem laid_mem {a0 : Array Value} : ∀ {fs : List (String × String × String × Value)}, LaidL Z a0 C fs → ∀ f ∈ fs, Laid Z a0 C f.1 f.2.1 f.2.2.1 ∧ ∃ ty, parseFieldDescriptor f.2.2.1 = some ty ∧ f.2.2.2 = defaultValue ty
  | [], _, f, hf => nomatch hf
  | g :: fs, H, f, hf => by
    rcases List.mem_cons.mp hf with rfl | q
    · exact H.1
    · exact laid_mem H.2 f q
theorem laid_pair {a0 : Array Value} {fs : List (String × String × String × Value)} (H : LaidL Z a0 C fs) (hN : (fs.map (fun f => f.2.1)).Nodup) : fs.Pairwise (fun f f' => RoadKit.slotOf Z f.1 f.2.1 f.2.2.1 ≠ RoadKit.slotOf Z f'.1 f'.2.1 f'.2.2.1) := by
  refine List.pairwise_iff_getElem.mpr fun i j hi hj hij => ?_
  obtain ⟨L1, t1, p1, -⟩ := laid_mem H _ (List.getElem_mem hi)
  obtain ⟨L2, t2, p2, -⟩ := laid_mem H _ (List.getElem_mem hj)
  have hn := List.pairwise_iff_getElem.mp hN i j (by simpa using hi) (by simpa using hj) hij
  simp only [List.getElem_map] at hn
  exact RoadKit.slot_ne L1 L2 hn p1 p2
end Heap
section Rules2
variable {l : Launch} {Z : State} {n0 : Nat} {B : Bdy} {R : Room} {Q : Option Value → Asn → Prop} {cells slots : Nat} {σ : Asn} {pc pc' : Nat} {ls ls' : Array Slot} {st st' rest : List Value} {a0 : Array Value}
theorem W.conv {σ' : Asn} (hσ : ∀ h, Sep Z n0 h σ → Sep Z n0 h σ') (k : W l Z n0 B R Q cells slots σ' pc ls st) : W l Z n0 B R Q cells slots σ pc ls st :=
  fun p e s m args below meth c T locs C X N S => k p e s m args below meth c T locs C X N (hσ _ S)
theorem W.pull (τ : Asn) (i : Nat) {x : Addr × (Cell → Prop)} (hi : σ[i]? = some x) (hτ : σ.eraseIdx i = τ) (k : W l Z n0 B R Q cells slots (x :: τ) pc ls st) : W l Z n0 B R Q cells slots σ pc ls st := by
  subst hτ; exact W.conv (fun _ S => S.pull hi) k
def pulls : Asn → List Nat → Asn
  | σ, [] => σ
  | σ, i :: is => pulls (match σ[i]? with | some x => x :: σ.eraseIdx i | none => σ) is
theorem Sep.pulls {h : Heap} : ∀ (is : List Nat) (σ : Asn), Sep Z n0 h σ → Sep Z n0 h (pulls σ is)
  | [], σ, S => S
  | i :: is, σ, S => by
    refine Sep.pulls is _ ?_
    cases hx : σ[i]? with
    | none => exact S
    | some x => exact S.pull hx
theorem W.pulls (τ : Asn) (is : List Nat) (hτ : pulls σ is = τ) (k : W l Z n0 B R Q cells slots τ pc ls st) : W l Z n0 B R Q cells slots σ pc ls st := by
  subst hτ; exact W.conv (fun _ S => S.pulls is σ) k
theorem W.ne (i j : Nat) {a b : Addr} {P P' : Cell → Prop} (hi : σ[i]? = some (a, P)) (hj : σ[j]? = some (b, P')) (hij : i ≠ j) (k : a ≠ b → W l Z n0 B R Q cells slots σ pc ls st) : W l Z n0 B R Q cells slots σ pc ls st :=
  fun p e s m args below meth c T locs C X N S => k (S.ne hi hj hij) p e s m args below meth c T locs C X N S
theorem W.of2 {σ' : Asn} {cells' slots' : Nat} (hstep : ∀ (p : Program) (e : Env) (s : State) (m : MethodId) (args : Array Value) (below : List Frame) (meth : Method) (c : Code) (T : State) (locs : List Loc), Cx p s m meth c Z B → Stand p l e R s m args below meth c T locs cells slots → Fr n0 locs → Sep Z n0 T.heap σ →
      ∃ (T' : State) (locs' : List Loc), Stand p l e R s m args below meth c T' locs' cells' slots' ∧ Fr n0 locs' ∧ Sep Z n0 T'.heap σ' ∧ ∀ t, Steps p.tables e below (T'.setTop (mkF m pc' ls' st')) t → Steps p.tables e below (T.setTop (mkF m pc ls st)) t)
    (k : W l Z n0 B R Q cells' slots' σ' pc' ls' st') : W l Z n0 B R Q cells slots σ pc ls st := by
  intro p e s m args below meth c T locs C X N S
  obtain ⟨T', locs', X', N', S', st⟩ := hstep p e s m args below meth c T locs C X N S
  obtain ⟨u, o, h1, h2⟩ := k p e s m args below meth c T' locs' C X' N' S'
  exact ⟨u, o, st u h1, h2⟩
theorem W.getF (i j : Nat) {idx : Nat} {a : Addr} {C R0 O n d host : String} {fs : List (String × String × String × Value)} {v : Value} (hd : decode B.2.2.1 pc = .ok (.getfield idx, 3)) (w : (Jvm.Cond.fieldLink B.1 idx R0 n d).before a0 Z = true ∨ (Jvm.Cond.fieldLinkNest B.1 idx R0 n d host).before a0 Z = true) (via : Via Z R0 O n d)
    (hi : σ[i]? = some (a, ObjP Z C fs)) (hf : fs[j]? = some (O, n, d, v)) (hp : pc + 3 = pc') (k : W l Z n0 B R Q cells slots σ pc' ls (v :: st)) : W l Z n0 B R Q cells slots σ pc ls (.ref a :: st) := by
  subst hp
  refine W.of2 (fun p e s m args below meth c T locs ⟨hx, hby, hml, hown, hnm, hZ, hrt, hlk⟩ X N S => ?_) k
  obtain ⟨-, c1, hc1, H⟩ := S.get hi
  obtain ⟨T', X', e', st'⟩ := RoadKit.getF X hx hZ hown w via rfl (fld_out (H.2.1 _ (List.mem_of_getElem? hf)) hc1) (g := mkF m pc ls (.ref a :: st)) rfl rfl (hb hby hd)
  exact ⟨T', locs, X', N, by rw [e']; exact S, st'⟩
theorem W.putF (σ' : Asn) (i j : Nat) {idx kk : Nat} {a : Addr} {C R0 O n d host : String} {ty : FieldType} {fs : List (String × String × String × Value)} {v old : Value} (hd : decode B.2.2.1 pc = .ok (.putfield idx, 3)) (w : (Jvm.Cond.fieldLink B.1 idx R0 n d).before a0 Z = true ∨ (Jvm.Cond.fieldLinkNest B.1 idx R0 n d host).before a0 Z = true) (via : Via Z R0 O n d)
    (L : (Jvm.Cond.lays C O n d).before a0 Z = true ∨ ((Jvm.Cond.laysFinal C O n d).before a0 Z = true ∧ B.1 = O ∧ B.2.1 = "<init>")) (wi : (Jvm.Cond.instantiable C kk).before a0 Z = true) (hty : parseFieldDescriptor d = some ty) (hn : narrow ty v = v) (hft : fits ty v = true)
    (hi : σ[i]? = some (a, ObjP Z C fs)) (hf : fs[j]? = some (O, n, d, old)) (hσ : σ.set i (a, ObjP Z C (fs.set j (O, n, d, v))) = σ') (hp : pc + 3 = pc') (k : W l Z n0 B R Q cells slots σ' pc' ls st) : W l Z n0 B R Q cells slots σ pc ls (v :: .ref a :: st) := by
  subst hp hσ
  refine W.of2 (fun p e s m args below meth c T locs ⟨hx, hby, hml, hown, hnm, hZ, hrt, hlk⟩ X N S => ?_) k
  obtain ⟨ha, c1, hc1, H⟩ := S.get hi
  obtain ⟨T', h', X', e', Wr', st'⟩ := RoadKit.putF X hx hZ hown w via rfl (fld_out (H.2.1 _ (List.mem_of_getElem? hf)) hc1) (exa_out H.1 hc1) (L.imp id (fun q => ⟨q.1, q.2.1, hnm.trans q.2.2⟩)) wi hty hn hft (g := mkF m pc ls (v :: .ref a :: st)) rfl rfl (hb hby hd)
  exact ⟨T', _, X', Fr.snoc X' N ha, by rw [e']; exact S.set hi Wr' (fun c2 hc2 H2 => H2.put hf hc2 Wr'), st'⟩
theorem W.getS {idx : Nat} {R0 O n d : String} {v : Value} (hd : decode B.2.2.1 pc = .ok (.getstatic idx, 3)) (w : (Jvm.Cond.fieldLink B.1 idx R0 n d).before a0 Z = true) (via : Via Z R0 O n d) (F : Sta Z Z.heap O n d v) (hp : pc + 3 = pc') (k : W l Z n0 B R Q cells slots σ pc' ls (v :: st)) : W l Z n0 B R Q cells slots σ pc ls st := by
  subst hp
  refine W.of2 (fun p e s m args below meth c T locs ⟨hx, hby, hml, hown, hnm, hZ, hrt, hlk⟩ X N S => ?_) k
  obtain ⟨T', X', e', st'⟩ := RoadKit.getS (host := "") X hx hZ hown w via rfl (F.ext S.1.2) (g := mkF m pc ls st) rfl (hb hby hd)
  exact ⟨T', locs, X', N, by rw [e']; exact S, st'⟩
theorem W.new {idx kk : Nat} {C : String} (fs : List (String × String × String × Value)) (hd : decode B.2.2.1 pc = .ok (.new idx, 3)) (w : (Jvm.Cond.classLink B.1 idx C).before a0 Z = true) (wi : (Jvm.Cond.instantiable C kk).before a0 Z = true) (wz : (Jvm.Cond.initialized C).before a0 Z = true)
    (hL : LaidL Z a0 C fs) (hN : (fs.map (fun f => f.2.1)).Nodup) (hc : cells + 1 ≤ R.cells) (hs : slots + kk ≤ R.slots) (hp : pc + 3 = pc') (k : ∀ a, W l Z n0 B R Q (cells + 1) (slots + kk) ((a, ObjP Z C fs) :: σ) pc' ls (.ref a :: st)) : W l Z n0 B R Q cells slots σ pc ls st := by
  subst hp
  intro p e s m args below meth c T locs C0 X N S
  obtain ⟨hx, hby, hml, hown, hnm, hZ, hrt, hlk⟩ := C0
  obtain ⟨T2, h2, X2, e2, E2, A2, D2, ⟨cl, hcl, -, -⟩, st2⟩ := RoadKit.newO X hx hZ hown w wi wz rfl (g := mkF m pc ls st) rfl (hb hby hd) hc hs
  have S2 : Sep Z n0 h2 ((T.heap.size, ObjP Z C fs) :: σ) := by
    refine S.new E2 hcl ⟨exa_in A2 hcl, fun f hf => ?_, laid_pair hL hN⟩
    obtain ⟨L1, ty, q1, q2⟩ := laid_mem hL f hf
    rw [q2]
    exact fld_in (D2 L1 q1) hcl
  obtain ⟨u, o, h1, h3⟩ := k T.heap.size p e s m args below meth c T2 locs ⟨hx, hby, hml, hown, hnm, hZ, hrt, hlk⟩ X2 N (by rw [e2]; exact S2)
  exact ⟨u, o, st2 u h1, h3⟩
theorem newA_list (cA : ClassId) (ty : FieldType) (n : Int32) : (newA cA ty n).slots.toList = List.replicate n.toNatClampNeg (defaultValue ty) := by simp [newA]
theorem W.newI (N : Nat) {aty : ArrayType} {n : Int32} (cap : Nat) (hd : decode B.2.2.1 pc = .ok (.newarray aty, 2)) (w : (Jvm.Cond.arrayClass (newarray.typeOf aty)).before a0 Z = true) (hdef : defaultValue (newarray.typeOf aty) = .int 0) (hn : ¬ n < 0) (hN : n.toNatClampNeg = N) (hcap : N ≤ cap) (h8 : cap * 8 ≤ 536870912)
    (hc : cells + 1 ≤ R.cells) (hs : slots + cap ≤ R.slots) (hp : pc + 2 = pc') (k : ∀ a, W l Z n0 B R Q (cells + 1) (slots + cap) ((a, IA Z (newarray.typeOf aty) (List.replicate N 0)) :: σ) pc' ls (.ref a :: st)) : W l Z n0 B R Q cells slots σ pc ls (.int n :: st) := by
  subst hp hN
  intro p e s m args below meth c T locs C0 X N S
  obtain ⟨hx, hby, hml, hown, hnm, hZ, hrt, hlk⟩ := C0
  obtain ⟨T2, h2, cA, X2, e2, E2, A2, st2⟩ := RoadKit.newP X hx hZ w rfl (g := mkF m pc ls (.int n :: st)) rfl (hb hby hd) rfl hn hcap h8 hc hs
  have S2 := S.new (P := IA Z (newarray.typeOf aty) (List.replicate n.toNatClampNeg 0)) E2 A2.1 ⟨A2.2.1, A2.2.2, by rw [newA_list, hdef, List.map_replicate]⟩
  obtain ⟨u, o, h1, h3⟩ := k T.heap.size p e s m args below meth c T2 locs ⟨hx, hby, hml, hown, hnm, hZ, hrt, hlk⟩ X2 N (by rw [e2]; exact S2)
  exact ⟨u, o, st2 u h1, h3⟩
theorem W.newJ (N : Nat) {n : Int32} (cap : Nat) (hd : decode B.2.2.1 pc = .ok (.newarray .long, 2)) (w : (Jvm.Cond.arrayClass .long).before a0 Z = true) (hn : ¬ n < 0) (hN : n.toNatClampNeg = N) (hcap : N ≤ cap) (h8 : cap * 8 ≤ 536870912)
    (hc : cells + 1 ≤ R.cells) (hs : slots + cap ≤ R.slots) (hp : pc + 2 = pc') (k : ∀ a, W l Z n0 B R Q (cells + 1) (slots + cap) ((a, LA Z (List.replicate N 0)) :: σ) pc' ls (.ref a :: st)) : W l Z n0 B R Q cells slots σ pc ls (.int n :: st) := by
  subst hp hN
  intro p e s m args below meth c T locs C0 X N S
  obtain ⟨hx, hby, hml, hown, hnm, hZ, hrt, hlk⟩ := C0
  obtain ⟨T2, h2, cA, X2, e2, E2, A2, st2⟩ := RoadKit.newP X hx hZ (aty := .long) w rfl (g := mkF m pc ls (.int n :: st)) rfl (hb hby hd) rfl hn hcap h8 hc hs
  have S2 := S.new (P := LA Z (List.replicate n.toNatClampNeg 0)) E2 A2.1 ⟨A2.2.1, A2.2.2, by rw [newA_list, List.map_replicate]; rfl⟩
  obtain ⟨u, o, h1, h3⟩ := k T.heap.size p e s m args below meth c T2 locs ⟨hx, hby, hml, hown, hnm, hZ, hrt, hlk⟩ X2 N (by rw [e2]; exact S2)
  exact ⟨u, o, st2 u h1, h3⟩
theorem slot_get {c : Cell} {vs : List Value} {n : Nat} {v : Value} (h : c.slots.toList = vs) (hv : vs[n]? = some v) : c.slots[n]? = some v ∧ n < c.slots.size := by
  have e : c.slots[n]? = some v := by rw [← Array.getElem?_toList, h]; exact hv
  exact ⟨e, (Array.getElem?_eq_some_iff.mp e).1⟩
theorem slot_set {c : Cell} {vs : List Value} (h : c.slots.toList = vs) (n : Nat) (v : Value) : (c.setSlot n v).slots.toList = vs.set n v := by rw [← h]; simp [Cell.setSlot]
theorem slot_in {c : Cell} {n : Nat} {j : Int32} (h0 : ¬ j < 0) (hn : j.toNatClampNeg = n) (h : n < c.slots.size) : ¬ (j < 0 ∨ c.slots.size ≤ j.toNatClampNeg) := by rw [hn]; exact fun q => q.elim h0 (fun z => by omega)
theorem W.iaload (i n : Nat) {a : Addr} {xs : List Int32} {j : Int32} {x : Int32} (hd : decode B.2.2.1 pc = .ok (.iaload, 1)) (hi : σ[i]? = some (a, IA Z .int xs)) (h0 : ¬ j < 0) (hn : j.toNatClampNeg = n) (hx : xs[n]? = some x) (hp : pc + 1 = pc') (k : W l Z n0 B R Q cells slots σ pc' ls (.int x :: st)) : W l Z n0 B R Q cells slots σ pc ls (.int j :: .ref a :: st) := by
  subst hp
  refine W.of2 (fun p e s m args below meth c T locs ⟨hx', hby, hml, hown, hnm, hZ, hrt, hlk⟩ X N S => ?_) k
  obtain ⟨-, c1, hc1, H1, H2, H3⟩ := S.get hi
  obtain ⟨g1, g2⟩ := slot_get (n := n) (v := .int x) H3 (by rw [List.getElem?_map, hx]; rfl)
  exact ⟨T, locs, X, N, S, fun t ht => X.iaload hx' hc1 (State.isArrayOf_alike hZ.alike H1) H2 (slot_in h0 hn g2) (by rw [hn]; exact g1) (g := mkF m pc ls (.int j :: .ref a :: st)) rfl rfl (hb hby hd) t ht⟩
theorem W.caload (i n : Nat) {a : Addr} {xs : List Int32} {j : Int32} {x : Int32} (hd : decode B.2.2.1 pc = .ok (.caload, 1)) (hi : σ[i]? = some (a, IA Z .char xs)) (h0 : ¬ j < 0) (hn : j.toNatClampNeg = n) (hx : xs[n]? = some x) (hp : pc + 1 = pc') (k : W l Z n0 B R Q cells slots σ pc' ls (.int x :: st)) : W l Z n0 B R Q cells slots σ pc ls (.int j :: .ref a :: st) := by
  subst hp
  refine W.of2 (fun p e s m args below meth c T locs ⟨hx', hby, hml, hown, hnm, hZ, hrt, hlk⟩ X N S => ?_) k
  obtain ⟨-, c1, hc1, H1, H2, H3⟩ := S.get hi
  obtain ⟨g1, g2⟩ := slot_get (n := n) (v := .int x) H3 (by rw [List.getElem?_map, hx]; rfl)
  exact ⟨T, locs, X, N, S, fun t ht => X.caload hx' hc1 (State.isArrayOf_alike hZ.alike H1) H2 (slot_in h0 hn g2) (by rw [hn]; exact g1) (g := mkF m pc ls (.int j :: .ref a :: st)) rfl rfl (hb hby hd) t ht⟩
theorem W.baload (i n : Nat) {a : Addr} {xs : List Int32} {j : Int32} {x : Int32} (hd : decode B.2.2.1 pc = .ok (.baload, 1)) (hi : σ[i]? = some (a, IA Z .byte xs)) (h0 : ¬ j < 0) (hn : j.toNatClampNeg = n) (hx : xs[n]? = some x) (hp : pc + 1 = pc') (k : W l Z n0 B R Q cells slots σ pc' ls (.int x :: st)) : W l Z n0 B R Q cells slots σ pc ls (.int j :: .ref a :: st) := by
  subst hp
  refine W.of2 (fun p e s m args below meth c T locs ⟨hx', hby, hml, hown, hnm, hZ, hrt, hlk⟩ X N S => ?_) k
  obtain ⟨-, c1, hc1, H1, H2, H3⟩ := S.get hi
  obtain ⟨g1, g2⟩ := slot_get (n := n) (v := .int x) H3 (by rw [List.getElem?_map, hx]; rfl)
  exact ⟨T, locs, X, N, S, fun t ht => X.baloadBytes hx' hc1 (State.isArrayOf_alike hZ.alike H1) H2 (slot_in h0 hn g2) (by rw [hn]; exact g1) (g := mkF m pc ls (.int j :: .ref a :: st)) rfl rfl (hb hby hd) t ht⟩
theorem W.zaload (i n : Nat) {a : Addr} {xs : List Int32} {j : Int32} {x : Int32} (hd : decode B.2.2.1 pc = .ok (.baload, 1)) (hi : σ[i]? = some (a, IA Z .boolean xs)) (h0 : ¬ j < 0) (hn : j.toNatClampNeg = n) (hx : xs[n]? = some x) (hp : pc + 1 = pc') (k : W l Z n0 B R Q cells slots σ pc' ls (.int x :: st)) : W l Z n0 B R Q cells slots σ pc ls (.int j :: .ref a :: st) := by
  subst hp
  refine W.of2 (fun p e s m args below meth c T locs ⟨hx', hby, hml, hown, hnm, hZ, hrt, hlk⟩ X N S => ?_) k
  obtain ⟨-, c1, hc1, H1, H2, H3⟩ := S.get hi
  obtain ⟨g1, g2⟩ := slot_get (n := n) (v := .int x) H3 (by rw [List.getElem?_map, hx]; rfl)
  exact ⟨T, locs, X, N, S, fun t ht => X.baloadBooleans hx' hc1 (State.isArrayOf_alike hZ.alike H1) H2 (slot_in h0 hn g2) (by rw [hn]; exact g1) (g := mkF m pc ls (.int j :: .ref a :: st)) rfl rfl (hb hby hd) t ht⟩
theorem W.laload (i n : Nat) {a : Addr} {xs : List Int64} {j : Int32} {x : Int64} (hd : decode B.2.2.1 pc = .ok (.laload, 1)) (hi : σ[i]? = some (a, LA Z xs)) (h0 : ¬ j < 0) (hn : j.toNatClampNeg = n) (hx : xs[n]? = some x) (hp : pc + 1 = pc') (k : W l Z n0 B R Q cells slots σ pc' ls (.long x :: st)) : W l Z n0 B R Q cells slots σ pc ls (.int j :: .ref a :: st) := by
  subst hp
  refine W.of2 (fun p e s m args below meth c T locs ⟨hx', hby, hml, hown, hnm, hZ, hrt, hlk⟩ X N S => ?_) k
  obtain ⟨-, c1, hc1, H1, H2, H3⟩ := S.get hi
  obtain ⟨g1, g2⟩ := slot_get (n := n) (v := .long x) H3 (by rw [List.getElem?_map, hx]; rfl)
  exact ⟨T, locs, X, N, S, fun t ht => X.laload hx' hc1 (State.isArrayOf_alike hZ.alike H1) H2 (slot_in h0 hn g2) (by rw [hn]; exact g1) (g := mkF m pc ls (.int j :: .ref a :: st)) rfl rfl (hb hby hd) t ht⟩
theorem W.iastore (σ' : Asn) (i n : Nat) {a : Addr} {xs : List Int32} {j : Int32} {x : Int32} (hd : decode B.2.2.1 pc = .ok (.iastore, 1)) (hi : σ[i]? = some (a, IA Z .int xs)) (h0 : ¬ j < 0) (hn : j.toNatClampNeg = n) (hx : n < xs.length) (hσ : σ.set i (a, IA Z .int (xs.set n (x))) = σ') (hp : pc + 1 = pc') (k : W l Z n0 B R Q cells slots σ' pc' ls st) : W l Z n0 B R Q cells slots σ pc ls (.int x :: .int j :: .ref a :: st) := by
  subst hp hσ
  refine W.of2 (fun p e s m args below meth c T locs ⟨hx', hby, hml, hown, hnm, hZ, hrt, hlk⟩ X N S => ?_) k
  obtain ⟨ha, c1, hc1, H1, H2, H3⟩ := S.get hi
  have g2 : n < c1.slots.size := by rw [← Array.length_toList, H3, List.length_map]; exact hx
  obtain ⟨T', h', X', e', W', st'⟩ := RoadKit.stI X hx' hZ rfl ⟨hc1, H1, H2⟩ (slot_in h0 hn g2) (g := mkF m pc ls (.int x :: .int j :: .ref a :: st)) rfl rfl (hb hby hd)
  rw [hn] at W'
  refine ⟨T', _, X', Fr.snoc X' N ha, ?_, st'⟩
  rw [e']
  exact S.set hi W' (fun c2 hc2 H => ⟨H.1, H.2.1, by rw [slot_set H.2.2, List.map_set]⟩)
theorem W.castore (σ' : Asn) (i n : Nat) {a : Addr} {xs : List Int32} {j : Int32} {x : Int32} (hd : decode B.2.2.1 pc = .ok (.castore, 1)) (hi : σ[i]? = some (a, IA Z .char xs)) (h0 : ¬ j < 0) (hn : j.toNatClampNeg = n) (hx : n < xs.length) (hσ : σ.set i (a, IA Z .char (xs.set n (nar .char x))) = σ') (hp : pc + 1 = pc') (k : W l Z n0 B R Q cells slots σ' pc' ls st) : W l Z n0 B R Q cells slots σ pc ls (.int x :: .int j :: .ref a :: st) := by
  subst hp hσ
  refine W.of2 (fun p e s m args below meth c T locs ⟨hx', hby, hml, hown, hnm, hZ, hrt, hlk⟩ X N S => ?_) k
  obtain ⟨ha, c1, hc1, H1, H2, H3⟩ := S.get hi
  have g2 : n < c1.slots.size := by rw [← Array.length_toList, H3, List.length_map]; exact hx
  obtain ⟨T', h', X', e', W', st'⟩ := RoadKit.stC X hx' hZ rfl ⟨hc1, H1, H2⟩ (slot_in h0 hn g2) (g := mkF m pc ls (.int x :: .int j :: .ref a :: st)) rfl rfl (hb hby hd)
  rw [hn] at W'
  refine ⟨T', _, X', Fr.snoc X' N ha, ?_, st'⟩
  rw [e']
  exact S.set hi W' (fun c2 hc2 H => ⟨H.1, H.2.1, by rw [slot_set H.2.2, List.map_set]⟩)
theorem W.bastore (σ' : Asn) (i n : Nat) {a : Addr} {xs : List Int32} {j : Int32} {x : Int32} (hd : decode B.2.2.1 pc = .ok (.bastore, 1)) (hi : σ[i]? = some (a, IA Z .byte xs)) (h0 : ¬ j < 0) (hn : j.toNatClampNeg = n) (hx : n < xs.length) (hσ : σ.set i (a, IA Z .byte (xs.set n (nar .byte x))) = σ') (hp : pc + 1 = pc') (k : W l Z n0 B R Q cells slots σ' pc' ls st) : W l Z n0 B R Q cells slots σ pc ls (.int x :: .int j :: .ref a :: st) := by
  subst hp hσ
  refine W.of2 (fun p e s m args below meth c T locs ⟨hx', hby, hml, hown, hnm, hZ, hrt, hlk⟩ X N S => ?_) k
  obtain ⟨ha, c1, hc1, H1, H2, H3⟩ := S.get hi
  have g2 : n < c1.slots.size := by rw [← Array.length_toList, H3, List.length_map]; exact hx
  obtain ⟨T', h', X', e', W', st'⟩ := RoadKit.stB X hx' hZ rfl ⟨hc1, H1, H2⟩ (slot_in h0 hn g2) (g := mkF m pc ls (.int x :: .int j :: .ref a :: st)) rfl rfl (hb hby hd)
  rw [hn] at W'
  refine ⟨T', _, X', Fr.snoc X' N ha, ?_, st'⟩
  rw [e']
  exact S.set hi W' (fun c2 hc2 H => ⟨H.1, H.2.1, by rw [slot_set H.2.2, List.map_set]⟩)
theorem W.zastore (σ' : Asn) (i n : Nat) {a : Addr} {xs : List Int32} {j : Int32} {x : Int32} (hd : decode B.2.2.1 pc = .ok (.bastore, 1)) (hi : σ[i]? = some (a, IA Z .boolean xs)) (h0 : ¬ j < 0) (hn : j.toNatClampNeg = n) (hx : n < xs.length) (hσ : σ.set i (a, IA Z .boolean (xs.set n (nar .boolean x))) = σ') (hp : pc + 1 = pc') (k : W l Z n0 B R Q cells slots σ' pc' ls st) : W l Z n0 B R Q cells slots σ pc ls (.int x :: .int j :: .ref a :: st) := by
  subst hp hσ
  refine W.of2 (fun p e s m args below meth c T locs ⟨hx', hby, hml, hown, hnm, hZ, hrt, hlk⟩ X N S => ?_) k
  obtain ⟨ha, c1, hc1, H1, H2, H3⟩ := S.get hi
  have g2 : n < c1.slots.size := by rw [← Array.length_toList, H3, List.length_map]; exact hx
  obtain ⟨T', h', X', e', W', st'⟩ := RoadKit.stZ X hx' hZ rfl ⟨hc1, H1, H2⟩ (slot_in h0 hn g2) (g := mkF m pc ls (.int x :: .int j :: .ref a :: st)) rfl rfl (hb hby hd)
  rw [hn] at W'
  refine ⟨T', _, X', Fr.snoc X' N ha, ?_, st'⟩
  rw [e']
  exact S.set hi W' (fun c2 hc2 H => ⟨H.1, H.2.1, by rw [slot_set H.2.2, List.map_set]⟩)
theorem W.lastore (σ' : Asn) (i n : Nat) {a : Addr} {xs : List Int64} {j : Int32} {x : Int64} (hd : decode B.2.2.1 pc = .ok (.lastore, 1)) (hi : σ[i]? = some (a, LA Z xs)) (h0 : ¬ j < 0) (hn : j.toNatClampNeg = n) (hx : n < xs.length) (hσ : σ.set i (a, LA Z (xs.set n (x))) = σ') (hp : pc + 1 = pc') (k : W l Z n0 B R Q cells slots σ' pc' ls st) : W l Z n0 B R Q cells slots σ pc ls (.long x :: .int j :: .ref a :: st) := by
  subst hp hσ
  refine W.of2 (fun p e s m args below meth c T locs ⟨hx', hby, hml, hown, hnm, hZ, hrt, hlk⟩ X N S => ?_) k
  obtain ⟨ha, c1, hc1, H1, H2, H3⟩ := S.get hi
  have g2 : n < c1.slots.size := by rw [← Array.length_toList, H3, List.length_map]; exact hx
  obtain ⟨T', h', X', e', W', st'⟩ := RoadKit.stJ X hx' hZ rfl ⟨hc1, H1, H2⟩ (slot_in h0 hn g2) (g := mkF m pc ls (.long x :: .int j :: .ref a :: st)) rfl rfl (hb hby hd)
  rw [hn] at W'
  refine ⟨T', _, X', Fr.snoc X' N ha, ?_, st'⟩
  rw [e']
  exact S.set hi W' (fun c2 hc2 H => ⟨H.1, H.2.1, by rw [slot_set H.2.2, List.map_set]⟩)
theorem W.len (i : Nat) {a : Addr} {ty : FieldType} {xs : List Int32} (v : Int32) (hd : decode B.2.2.1 pc = .ok (.arraylength, 1)) (hi : σ[i]? = some (a, IA Z ty xs)) (hv : xs.length.toInt32 = v) (hp : pc + 1 = pc') (k : W l Z n0 B R Q cells slots σ pc' ls (.int v :: st)) : W l Z n0 B R Q cells slots σ pc ls (.ref a :: st) := by
  subst hp hv
  refine W.of2 (fun p e s m args below meth c T locs ⟨hx, hby, hml, hown, hnm, hZ, hrt, hlk⟩ X N S => ?_) k
  obtain ⟨-, c1, hc1, H1, H2, H3⟩ := S.get hi
  refine ⟨T, locs, X, N, S, fun t ht => X.arraylength hx hc1 (State.isArrayOf_alike hZ.alike H1) (g := mkF m pc ls (.ref a :: st)) rfl rfl (hb hby hd) t ?_⟩
  have e : c1.slots.size = xs.length := by rw [← Array.length_toList, H3, List.length_map]
  rw [e]; exact ht
theorem W.lenJ (i : Nat) {a : Addr} {xs : List Int64} (v : Int32) (hd : decode B.2.2.1 pc = .ok (.arraylength, 1)) (hi : σ[i]? = some (a, LA Z xs)) (hv : xs.length.toInt32 = v) (hp : pc + 1 = pc') (k : W l Z n0 B R Q cells slots σ pc' ls (.int v :: st)) : W l Z n0 B R Q cells slots σ pc ls (.ref a :: st) := by
  subst hp hv
  refine W.of2 (fun p e s m args below meth c T locs ⟨hx, hby, hml, hown, hnm, hZ, hrt, hlk⟩ X N S => ?_) k
  obtain ⟨-, c1, hc1, H1, H2, H3⟩ := S.get hi
  refine ⟨T, locs, X, N, S, fun t ht => X.arraylength hx hc1 (State.isArrayOf_alike hZ.alike H1) (g := mkF m pc ls (.ref a :: st)) rfl rfl (hb hby hd) t ?_⟩
  have e : c1.slots.size = xs.length := by rw [← Array.length_toList, H3, List.length_map]
  rw [e]; exact ht
theorem W.callI {y : MethodName} {bytes : ByteArray} {maxL : Nat} {rm : Room} {a : Addr} {as : List Value} {Qc : Option Value → Asn → Prop} {i : Nat} {sg : MethodDescriptor} (hS : Sp l Z n0 y bytes maxL none rm (.ref a :: as) σ Qc)
    (hd : decode B.2.2.1 pc = .ok (.invokespecial i, 3)) (hy1 : y.name = "<init>") (w1 : (Jvm.Cond.methodLink B.1 i y).before a0 Z = true) (w2 : (Jvm.Cond.instanceMethod y).before a0 Z = true) (wz : (Jvm.Cond.initialized y.cls).before a0 Z = true) (wc : (Jvm.Cond.code y bytes maxL none).before a0 Z = true)
    (hy : y.cls ≠ "java/lang/invoke/MethodHandle" ∧ y.cls ≠ "java/lang/invoke/VarHandle") (hsg : parseMethodDescriptor y.desc = some sg) (hln : as.length = sg.parameters.length) (hst : st = as.reverse ++ .ref a :: rest)
    (hf : rm.frames + 1 ≤ R.frames) (hl : (rest.map fun v => v.category).sum + (maxL + 11) + rm.locals ≤ R.locals) (hc : cells + rm.cells ≤ R.cells) (hs : slots + rm.slots ≤ R.slots) (hsz : ls.size = B.2.2.2.1) (hp : pc + 3 = pc')
    (k : ∀ v σ', Qc v σ' → W l Z n0 B R Q (cells + rm.cells) (slots + rm.slots) σ' pc' ls (v.toList ++ rest)) : W l Z n0 B R Q cells slots σ pc ls st := by
  subst hp
  intro p e s m args below meth c T locs C X N S
  obtain ⟨hx, hby, hml, hown, hnm, hZ, hrt, hlk⟩ := C
  obtain ⟨v, _, ⟨T8, L8, k8, n8⟩, -, X8, ⟨Lc8, ⟨⟨σ', hQ8, hS8⟩, hF8⟩, l8, y8, z8⟩, st8⟩ := X.specialBack hx (y := y) hy1 hown (mvT hZ w1) (mvT hZ w2) (mvT hZ wc) hy (W.back (a0 := a0) hS S hZ wc wz hf hl) (g := (mkF m pc ls st)) rfl (by rw [hml]; exact hsz) (Steps.refl _) (a := a) (argsL := as) (rest := rest) (lenOf hsg hln) hst (by show 2 * 0 + _ ≤ _; omega) (hb hby hd) (fun _ _ => ⟨rfl, rfl, hc, hs⟩)
  dsimp only [Pt.U, Pt.locs, Pt.cells, Pt.slots] at X8 l8 y8 z8 st8 hS8
  subst l8 y8 z8
  obtain ⟨u, o, h1, h2⟩ := k v σ' hQ8 p e s m args below meth c T8 _ ⟨hx, hby, hml, hown, hnm, hZ, hrt, hlk⟩ X8 (N.app hF8) hS8
  exact ⟨u, o, st8.trans h1, h2⟩
theorem W.callV (j : Nat) {y : MethodName} {bytes : ByteArray} {maxL : Nat} {ret : Option FieldType} {rm : Room} {a : Addr} {C : String} {fs : List (String × String × String × Value)} {as : List Value} {Qc : Option Value → Asn → Prop} {i : Nat} {sg : MethodDescriptor} (hj : σ[j]? = some (a, ObjP Z C fs)) (hS : Sp l Z n0 y bytes maxL ret rm (.ref a :: as) σ Qc)
    (hd : decode B.2.2.1 pc = .ok (.invokevirtual i, 3)) (w1 : (Jvm.Cond.methodLink B.1 i y).before a0 Z = true) (wd : (Jvm.Cond.declares y).before a0 Z = true) (wsl : (Jvm.Cond.selects C y y).before a0 Z = true) (w2 : (Jvm.Cond.instanceMethod y).before a0 Z = true) (wz : (Jvm.Cond.initialized y.cls).before a0 Z = true) (wc : (Jvm.Cond.code y bytes maxL ret).before a0 Z = true) (hyc : C = y.cls)
    (hy : y.cls ≠ "java/lang/invoke/MethodHandle" ∧ y.cls ≠ "java/lang/invoke/VarHandle") (hsg : parseMethodDescriptor y.desc = some sg) (hln : as.length = sg.parameters.length) (hst : st = as.reverse ++ .ref a :: rest)
    (hf : rm.frames + 1 ≤ R.frames) (hl : (rest.map fun v => v.category).sum + (maxL + 11) + rm.locals ≤ R.locals) (hc : cells + rm.cells ≤ R.cells) (hs : slots + rm.slots ≤ R.slots) (hsz : ls.size = B.2.2.2.1) (hp : pc + 3 = pc')
    (k : ∀ v σ', Qc v σ' → W l Z n0 B R Q (cells + rm.cells) (slots + rm.slots) σ' pc' ls (v.toList ++ rest)) : W l Z n0 B R Q cells slots σ pc ls st := by
  subst hp hyc
  intro p e s m args below meth c T locs Cc X N S
  obtain ⟨hx, hby, hml, hown, hnm, hZ, hrt, hlk⟩ := Cc
  obtain ⟨-, c1, hc1, H⟩ := S.get hj
  obtain ⟨cq, kq, qa, qb, qc⟩ := isOf hZ rfl (exa_out H.1 hc1)
  obtain ⟨v, _, ⟨T8, L8, k8, n8⟩, -, X8, ⟨Lc8, ⟨⟨σ', hQ8, hS8⟩, hF8⟩, l8, y8, z8⟩, st8⟩ := X.virtualBack hx (y := y) (z := y) hown (mvT hZ w1) (mvT hZ wd) (notFace_of_selects (args := #[]) (mvT hZ wsl)) (mvT hZ wsl) (mvT hZ w2) hy (W.back (a0 := a0) hS S hZ wc wz hf hl) qa qc (g := (mkF m pc ls st)) rfl (by rw [hml]; exact hsz) (Steps.refl _) (argsL := as) (rest := rest) (lenOf hsg hln) hst (by show 2 * 0 + _ ≤ _; omega) (hb hby hd) (fun _ _ => ⟨rfl, rfl, hc, hs⟩)
  dsimp only [Pt.U, Pt.locs, Pt.cells, Pt.slots] at X8 l8 y8 z8 st8 hS8
  subst l8 y8 z8
  obtain ⟨u, o, h1, h2⟩ := k v σ' hQ8 p e s m args below meth c T8 _ ⟨hx, hby, hml, hown, hnm, hZ, hrt, hlk⟩ X8 (N.app hF8) hS8
  exact ⟨u, o, st8.trans h1, h2⟩
end Rules2
section Rules3
variable {l : Launch} {Z : State} {n0 : Nat} {B : Bdy} {R : Room} {Q : Option Value → Asn → Prop} {cells slots : Nat} {σ : Asn} {pc pc' : Nat} {ls ls' : Array Slot} {st st' rest : List Value} {a0 : Array Value}
theorem nar_ref {t : FieldType} {v : Value} (hv : v.isRef = true) : narrow t v = v := by rcases ref_cases hv with rfl | ⟨a, rfl⟩ <;> cases t <;> rfl
theorem fit_ref {n : String} {v : Value} (hv : v.isRef = true) : fits (.object n) v = true := by rcases ref_cases hv with rfl | ⟨a, rfl⟩ <;> rfl
theorem fit_refA {t : FieldType} {v : Value} (hv : v.isRef = true) : fits (.array t) v = true := by rcases ref_cases hv with rfl | ⟨a, rfl⟩ <;> rfl
theorem W.drop (τ : Asn) (i : Nat) (hτ : σ.eraseIdx i = τ) (k : W l Z n0 B R Q cells slots τ pc ls st) : W l Z n0 B R Q cells slots σ pc ls st := by
  subst hτ; exact W.conv (fun _ S => S.sub (List.eraseIdx_sublist σ i)) k
theorem Sep.imp {h : Heap} {i : Nat} {a : Addr} {P P' : Cell → Prop} (S : Sep Z n0 h σ) (hi : σ[i]? = some (a, P)) (hP : ∀ c, P c → P' c) : Sep Z n0 h (σ.set i (a, P')) := by
  refine ⟨S.1, ?_, ?_⟩
  · intro x hx
    obtain ⟨j, hj⟩ := List.mem_iff_getElem?.mp hx
    by_cases hij : i = j
    · subst hij
      rw [List.getElem?_set_self (List.getElem?_eq_some_iff.mp hi).1] at hj
      cases hj
      obtain ⟨q1, c, q2, q3⟩ := S.get hi
      exact ⟨q1, c, q2, hP c q3⟩
    · rw [List.getElem?_set_ne hij] at hj
      exact S.2.1 x (List.mem_of_getElem? hj)
  · have e : (σ.set i (a, P')).map (fun x => x.1) = σ.map (fun x => x.1) := by
      apply List.ext_getElem?
      intro j
      simp only [List.getElem?_map]
      by_cases hij : i = j
      · subst hij
        rw [List.getElem?_set_self (List.getElem?_eq_some_iff.mp hi).1, hi]; rfl
      · rw [List.getElem?_set_ne hij]
    rw [e]; exact S.2.2
theorem ObjP.sub {C : String} {fs fs' : List (String × String × String × Value)} {c : Cell} (H : ObjP Z C fs c) (hs : fs'.Sublist fs) : ObjP Z C fs' c := ⟨H.1, fun f hf => H.2.1 f (hs.subset hf), H.2.2.sublist hs⟩
theorem W.fewer (σ' : Asn) (i : Nat) {a : Addr} {C : String} {fs fs' : List (String × String × String × Value)} (hi : σ[i]? = some (a, ObjP Z C fs)) (hs : fs'.Sublist fs) (hσ : σ.set i (a, ObjP Z C fs') = σ') (k : W l Z n0 B R Q cells slots σ' pc ls st) : W l Z n0 B R Q cells slots σ pc ls st := by
  subst hσ; exact W.conv (fun _ S => S.imp hi (fun c H => H.sub hs)) k
theorem flt_at {s : State} {args : Array Value} {own : String} {i : Nat} {b : UInt32} (hZ : Z.Warmed39 s.vm) (w : (Jvm.Cond.constantFloat own i b).before a0 Z = true) : (Jvm.Cond.constantFloat own i b).before args s = true :=
  constantFloat_same (s := Z.setVm s.vm) (s' := s) (args' := args) rfl ((Cond.constantFloat_setVm hZ.alike own i b).trans w)
theorem W.ldcF {i : Nat} {b : UInt32} (hd : decode B.2.2.1 pc = .ok (.ldc i, 2)) (w : (Jvm.Cond.constantFloat B.1 i b).before a0 Z = true) (hp : pc + 2 = pc') (k : W l Z n0 B R Q cells slots σ pc' ls (.float b :: st)) : W l Z n0 B R Q cells slots σ pc ls st := by
  subst hp; exact W.of (fun p e s m args below meth c T locs C X t h => X.ldcFloatC C.1 C.2.2.2.1 (flt_at C.2.2.2.2.2.1 w) (g := mkF m pc ls st) rfl (hb C.2.1 hd) t h) k
theorem W.callP (j : Nat) {y : MethodName} {bytes : ByteArray} {maxL : Nat} {ret : Option FieldType} {rm : Room} {a : Addr} {C : String} {fs : List (String × String × String × Value)} {as : List Value} {Qc : Option Value → Asn → Prop} {i kk : Nat} {sg : MethodDescriptor} (hj : σ[j]? = some (a, ObjP Z C fs)) (hS : Sp l Z n0 y bytes maxL ret rm (.ref a :: as) σ Qc)
    (hd : decode B.2.2.1 pc = .ok (.invokevirtual i, 3)) (w1 : (Jvm.Cond.methodLink B.1 i y).before a0 Z = true) (w2 : (Jvm.Cond.instanceMethod y).before a0 Z = true) (wp : (Jvm.Cond.privateMethod y).before a0 Z = true) (wi : (Jvm.Cond.instantiable y.cls kk).before a0 Z = true) (wz : (Jvm.Cond.initialized y.cls).before a0 Z = true) (wc : (Jvm.Cond.code y bytes maxL ret).before a0 Z = true)
    (hy : y.cls ≠ "java/lang/invoke/MethodHandle" ∧ y.cls ≠ "java/lang/invoke/VarHandle") (hsg : parseMethodDescriptor y.desc = some sg) (hln : as.length = sg.parameters.length) (hst : st = as.reverse ++ .ref a :: rest)
    (hf : rm.frames + 1 ≤ R.frames) (hl : (rest.map fun v => v.category).sum + (maxL + 11) + rm.locals ≤ R.locals) (hc : cells + rm.cells ≤ R.cells) (hs : slots + rm.slots ≤ R.slots) (hsz : ls.size = B.2.2.2.1) (hp : pc + 3 = pc')
    (k : ∀ v σ', Qc v σ' → W l Z n0 B R Q (cells + rm.cells) (slots + rm.slots) σ' pc' ls (v.toList ++ rest)) : W l Z n0 B R Q cells slots σ pc ls st := by
  subst hp
  intro p e s m args below meth c T locs Cc X N S
  obtain ⟨hx, hby, hml, hown, hnm, hZ, hrt, hlk⟩ := Cc
  obtain ⟨-, c1, hc1, H⟩ := S.get hj
  obtain ⟨c2, hc2, hc3⟩ := (exa_out H.1 hc1).cell
  cases hc1.symm.trans hc2
  have hpr : s.PrivateAt y := Cond.privateMethod_at (args := #[]) (mvP hZ wp)
  have hsel : (Jvm.Cond.selects y.cls y y).before args s = true := by
    obtain ⟨ci, ki, i1, i2, -, i4, -⟩ := Cond.instantiable_spec (mvT (args := args) hZ wi)
    exact selects_self_of_private i1 i2 (Bool.or_eq_false_iff.mp i4).1 hpr (mvT hZ w2) hy
  obtain ⟨v, _, ⟨T8, L8, k8, n8⟩, -, X8, ⟨Lc8, ⟨⟨σ', hQ8, hS8⟩, hF8⟩, l8, y8, z8⟩, st8⟩ := X.privateBack hx (y := y) hown (mvT hZ w1) (mvT hZ w2) hsel hpr (mvT hZ wc) hy (W.back (a0 := a0) hS S hZ wc wz hf hl) (g := (mkF m pc ls st)) rfl (by rw [hml]; exact hsz) (Steps.refl _) (a := a) hc1 hc3 (argsL := as) (rest := rest) (lenOf hsg hln) hst (by show 2 * 0 + _ ≤ _; omega) (hb hby hd) (fun _ _ => ⟨rfl, rfl, hc, hs⟩)
  dsimp only [Pt.U, Pt.locs, Pt.cells, Pt.slots] at X8 l8 y8 z8 st8 hS8
  subst l8 y8 z8
  obtain ⟨u, o, h1, h2⟩ := k v σ' hQ8 p e s m args below meth c T8 _ ⟨hx, hby, hml, hown, hnm, hZ, hrt, hlk⟩ X8 (N.app hF8) hS8
  exact ⟨u, o, st8.trans h1, h2⟩
theorem W.callF (j : Nat) {xi y : MethodName} {bytes : ByteArray} {maxL : Nat} {ret : Option FieldType} {rm : Room} {a : Addr} {C : String} {fs : List (String × String × String × Value)} {as : List Value} {Qc : Option Value → Asn → Prop} {i ct : Nat} {sg : MethodDescriptor} (hj : σ[j]? = some (a, ObjP Z C fs)) (hS : Sp l Z n0 y bytes maxL ret rm (.ref a :: as) σ Qc)
    (hd : decode B.2.2.1 pc = .ok (.invokeinterface i ct, 5)) (w1 : (Jvm.Cond.methodLink B.1 i xi).before a0 Z = true) (wd : (Jvm.Cond.declares xi).before a0 Z = true) (wf : (Jvm.Cond.interfaceMethod xi.cls xi.cls xi.name xi.desc).before a0 Z = true) (wsl : (Jvm.Cond.selects C xi y).before a0 Z = true) (w2 : (Jvm.Cond.instanceMethod y).before a0 Z = true)
    (wp : (Jvm.Cond.publicMethod y).before a0 Z = true) (wu : (Jvm.Cond.unhidden C xi.name xi.desc).before a0 Z = true) (wcs : (Jvm.Cond.castable C xi.cls).before a0 Z = true) (wz : (Jvm.Cond.initialized y.cls).before a0 Z = true) (wc : (Jvm.Cond.code y bytes maxL ret).before a0 Z = true)
    (hy : xi.cls ≠ "java/lang/invoke/MethodHandle" ∧ xi.cls ≠ "java/lang/invoke/VarHandle") (hsg : parseMethodDescriptor xi.desc = some sg) (hln : as.length = sg.parameters.length) (hst : st = as.reverse ++ .ref a :: rest)
    (hf : rm.frames + 1 ≤ R.frames) (hl : (rest.map fun v => v.category).sum + (maxL + 11) + rm.locals ≤ R.locals) (hc : cells + rm.cells ≤ R.cells) (hs : slots + rm.slots ≤ R.slots) (hsz : ls.size = B.2.2.2.1) (hp : pc + 5 = pc')
    (k : ∀ v σ', Qc v σ' → W l Z n0 B R Q (cells + rm.cells) (slots + rm.slots) σ' pc' ls (v.toList ++ rest)) : W l Z n0 B R Q cells slots σ pc ls st := by
  subst hp
  intro p e s m args below meth c T locs Cc X N S
  obtain ⟨hx, hby, hml, hown, hnm, hZ, hrt, hlk⟩ := Cc
  obtain ⟨-, c1, hc1, H⟩ := S.get hj
  obtain ⟨cq, kq, qa, qb, qc⟩ := isOf hZ rfl (exa_out H.1 hc1)
  obtain ⟨v, _, ⟨T8, L8, k8, n8⟩, -, X8, ⟨Lc8, ⟨⟨σ', hQ8, hS8⟩, hF8⟩, l8, y8, z8⟩, st8⟩ := X.interfaceBack hx (xi := xi) (y := y) hown (mvT hZ w1) (mvT hZ wd) (mvT hZ wf (by simp [Cond.onTables, Cond.keepsFace, Cond.keeps, Cond.steady, Cond.faceAtom]; exact hy)) (mvT hZ wsl) (mvT hZ w2) (mvT hZ wp) (mvT hZ wu) (mvT hZ wcs) hy (W.back (a0 := a0) hS S hZ wc wz hf hl) qa qb qc (g := (mkF m pc ls st)) rfl (by rw [hml]; exact hsz) (Steps.refl _) (argsL := as) (rest := rest) (lenOf hsg hln) hst (by show 2 * 0 + _ ≤ _; omega) (hb hby hd) (fun _ _ => ⟨rfl, rfl, hc, hs⟩)
  dsimp only [Pt.U, Pt.locs, Pt.cells, Pt.slots] at X8 l8 y8 z8 st8 hS8
  subst l8 y8 z8
  obtain ⟨u, o, h1, h2⟩ := k v σ' hQ8 p e s m args below meth c T8 _ ⟨hx, hby, hml, hown, hnm, hZ, hrt, hlk⟩ X8 (N.app hF8) hS8
  exact ⟨u, o, st8.trans h1, h2⟩
end Rules3
section Rules4
variable {l : Launch} {Z : State} {n0 : Nat} {B : Bdy} {R : Room} {Q : Option Value → Asn → Prop} {cells slots : Nat} {σ : Asn} {pc pc' : Nat} {ls ls' : Array Slot} {st st' rest : List Value} {a0 : Array Value}
theorem Sep.keep1 {h h' : Heap} {j : Nat} {b : Addr} {P P' : Cell → Prop} {c' : Cell} (S : Sep Z n0 h σ) (hj : σ[j]? = some (b, P)) (K : Keep h h' [b]) (hc : h'[b]? = some c') (hP : P' c') : Sep Z n0 h' (σ.set j (b, P')) := by
  obtain ⟨hn, c, hc0, hp⟩ := S.get hj
  refine ⟨S.1.keep K (allS hn all0), ?_, ?_⟩
  · intro x hx
    obtain ⟨i, hi⟩ := List.mem_iff_getElem?.mp hx
    by_cases hij : j = i
    · subst hij
      rw [List.getElem?_set_self (List.getElem?_eq_some_iff.mp hj).1] at hi
      cases hi
      exact ⟨hn, c', hc, hP⟩
    · rw [List.getElem?_set_ne hij] at hi
      obtain ⟨xb, xP⟩ := x
      obtain ⟨hn2, c2, hc2, hp2⟩ := S.get hi
      have hne := S.ne hi hj (Ne.symm hij)
      exact ⟨hn2, c2, K.2.1 _ _ hc2 (ninS hne nin0), hp2⟩
  · have e : (σ.set j (b, P')).map (fun x => x.1) = σ.map (fun x => x.1) := by
      apply List.ext_getElem?
      intro i
      simp only [List.getElem?_map]
      by_cases hij : j = i
      · subst hij
        rw [List.getElem?_set_self (List.getElem?_eq_some_iff.mp hj).1, hj]; rfl
      · rw [List.getElem?_set_ne hij]
    rw [e]; exact S.2.2
theorem ofNat_nn {n : Nat} (h : n < 2 ^ 31) : ¬ Int32.ofNat n < 0 ∧ (Int32.ofNat n).toNatClampNeg = n := by
  have e : (Int32.ofNat n).toInt = n := Int32.toInt_ofNat_of_lt h
  refine ⟨fun q => ?_, ?_⟩
  · have h0 : (0 : Int32).toInt = 0 := by decide
    rw [Int32.lt_iff_toInt_lt, e, h0] at q; omega
  · simp only [Int32.toNatClampNeg, e]; omega
theorem ia_arv {h : Heap} {a : Addr} {c : Cell} {xs : List Int32} (hc : h[a]? = some c) (H : IA Z .int xs c) (hl : xs.length < 2 ^ 31) : Arv Z h a c.cls .int (Int32.ofNat xs.length) (xs.map Value.int) (.int 0) := by
  obtain ⟨H1, H2, H3⟩ := H
  have hs : c.slots.size = xs.length := by rw [← Array.length_toList, H3, List.length_map]
  have hg : ∀ k, k < c.slots.size → ∃ x, (xs.map Value.int).getD k (.int 0) = .int x ∧ c.slots[k]? = some (.int x) := by
    intro k hk
    have hk' : k < xs.length := by omega
    refine ⟨xs[k], by simp [List.getD_eq_getElem?_getD, hk'], ?_⟩
    exact (slot_get H3 (by rw [List.getElem?_map, List.getElem?_eq_getElem hk']; rfl)).1
  refine ⟨c, ⟨hc, H1, H2⟩, rfl, by rw [(ofNat_nn hl).2, hs], (ofNat_nn hl).1, fun k hk => ?_, fun k hk => ?_⟩
  · obtain ⟨x, e1, e2⟩ := hg k hk; rw [e1, e2]
  · obtain ⟨x, e1, -⟩ := hg k hk; rw [e1]; rfl
theorem W.copy1 (σ' : Asn) (i j d : Nat) {idx : Nat} {a b : Addr} {xs ys : List Int32} {x dp : Int32} (hd : decode B.2.2.1 pc = .ok (.invokestatic idx, 3)) (w1 : (Jvm.Cond.methodLink B.1 idx Jvm.Stand.acN).before a0 Z = true) (w2 : (Jvm.Cond.native Jvm.Stand.acN).before a0 Z = true) (w3 : (Jvm.Cond.static Jvm.Stand.acN).before a0 Z = true) (w4 : (Jvm.Cond.initialized "java/lang/System").before a0 Z = true)
    (hi : σ[i]? = some (a, IA Z .int xs)) (hj : σ[j]? = some (b, IA Z .int ys)) (hx : xs[0]? = some x) (h0 : ¬ dp < 0) (hdn : dp.toNatClampNeg = d) (hl : d < ys.length) (hxl : xs.length < 2 ^ 31) (hyl : ys.length < 2 ^ 31) (hσ : σ.set j (b, IA Z .int (ys.set d x)) = σ')
    (hsz : ls.size = B.2.2.2.1) (hf : 1 ≤ R.frames) (hlo : (st.map fun v => v.category).sum + 18 ≤ R.locals) (hp : pc + 3 = pc') (k : W l Z n0 B R Q cells slots σ' pc' ls st) : W l Z n0 B R Q cells slots σ pc ls (.int 1 :: .int dp :: .ref b :: .int 0 :: .ref a :: st) := by
  subst hp hσ
  refine W.of2 (fun p e s m args below meth c T locs ⟨hx', hby, hml, hown, hnm, hZ, hrt, hlk⟩ X N S => ?_) k
  obtain ⟨-, c1, hc1, H1⟩ := S.get hi
  obtain ⟨hb2, c2, hc2, H2⟩ := S.get hj
  have hx0 : 0 < xs.length := (List.getElem?_eq_some_iff.mp hx).1
  obtain ⟨T', h', L, X', e', N', K', V', st'⟩ := RoadKit.cpA X hx' hZ hown w1 w2 w3 w4 rfl (ia_arv hc1 H1 hxl) (ia_arv hc2 H2 hyl) (us := [.int x]) (Or.inl ⟨rfl, rfl⟩) (sp := 0) (dp := dp) (nn := 1) (by decide) h0 (by decide) (by rw [(ofNat_nn hxl).2]; show 0 + 1 ≤ _; omega) (by rw [(ofNat_nn hyl).2, hdn]; show d + 1 ≤ _; omega)
    (by show _ = [(xs.map Value.int).getD (0 + 0) (.int 0)]; rw [List.getD_eq_getElem?_getD, List.getElem?_map, hx]; rfl) (by rw [List.length_map, hdn]; show d + 1 ≤ _; omega) N hb2 (g := mkF m pc ls (.int 1 :: .int dp :: .ref b :: .int 0 :: .ref a :: st)) rfl (by rw [hml]; exact hsz) rfl (hb hby hd) hf (W := (st.map fun v => v.category).sum) (by show 2 * 0 + _ ≤ _; omega) hlo
  refine ⟨T', L, X', N', ?_, st'⟩
  obtain ⟨c3, A3, -, S3, -, H3, -⟩ := V'
  rw [e']
  refine S.keep1 hj K' A3.1 ⟨A3.2.1, A3.2.2, ?_⟩
  have hs3 : c3.slots.size = ys.length := by rw [S3, (ofNat_nn hyl).2]
  apply List.ext_getElem?
  intro q
  rw [Array.getElem?_toList]
  have e5 : (ys.map Value.int).take dp.toNatClampNeg ++ [Value.int x] ++ (ys.map Value.int).drop (dp.toNatClampNeg + (1 : Int32).toNatClampNeg) = (ys.set d x).map Value.int := by
    rw [List.map_set, List.set_eq_take_append_cons_drop, if_pos (by rw [List.length_map]; exact hl), hdn, List.append_assoc]; rfl
  rw [e5] at H3
  by_cases hq : q < c3.slots.size
  · rw [H3 q hq, List.getD_eq_getElem?_getD]
    have : q < ((ys.set d x).map Value.int).length := by rw [List.length_map, List.length_set]; omega
    rw [List.getElem?_eq_getElem this]; rfl
  · rw [Array.getElem?_eq_none (by omega), List.getElem?_eq_none (by rw [List.length_map, List.length_set]; omega)]
end Rules4
theorem wd {L : List Jvm.Cond} {a0 : Array Value} {Z : State} (hw : ∀ d ∈ L, d.before a0 Z = true) (i : Nat) {d : Jvm.Cond} (h : L[i]? = some d) : d.before a0 Z = true := hw d (List.mem_of_getElem? h)
/-- it returns just this, and the heap is known as this -/
abbrev Ret (v : Option Value) (τ : Asn) : Option Value → Asn → Prop := fun v' σ' => v' = v ∧ σ' = τ
def own_hn (v : Int64) : Int32 := if 9223372036854775806 < v then 0 else 1
theorem own_max (v : Int64) : (9223372036854775806 < v) ↔ v = 9223372036854775807 := by
  have r := rng64 v
  have e1 : (9223372036854775806 : Int64).toInt = 9223372036854775806 := by decide
  have e2 : (9223372036854775807 : Int64).toInt = 9223372036854775807 := by decide
  rw [Int64.lt_iff_toInt_lt, ← Int64.toInt_inj]; omega
theorem own_ref (v : Int64) (z : Int32) (hz : z = if v = 9223372036854775807 then 0 else 1) : own_hn v = z := by
  rw [hz]; unfold own_hn; simp only [own_max]
theorem own_fits {v : Int64} (h : ¬ own_hn v = 0) : XT.fits64 (v.toInt + (1 : Int64).toInt) := by
  have h' : ¬ 9223372036854775806 < v := fun q => h (by unfold own_hn; rw [if_pos q])
  have r := rng64 v
  have e0 : (1 : Int64).toInt = 1 := by decide
  have e1 : (9223372036854775806 : Int64).toInt = 9223372036854775806 := by decide
  rw [Int64.lt_iff_toInt_lt] at h'
  constructor <;> omega
theorem own_up {v : Int64} (h : XT.fits64 (v.toInt + (1 : Int64).toInt)) : v < v + 1 := by
  have q := XT.add64 h
  have e0 : (1 : Int64).toInt = 1 := by decide
  rw [Int64.lt_iff_toInt_lt]; omega
theorem own_down {v : Int64} : v + 1 - 1 = v := by
  have h1 := c_ladd v 1; have h2 := c_lsub (v + 1) 1
  have r := rng64 v; have r2 := rng64 (v + 1 - 1)
  exact Int64.toInt_inj.mp (by omega)
theorem d1_0 : decode prog_87_method_2_code 0 = .ok (.lload_n 0, 1) := by decide +kernel
theorem d1_1 : decode prog_87_method_2_code 1 = .ok (.ldc2_w 11, 3) := by decide +kernel
theorem d1_4 : decode prog_87_method_2_code 4 = .ok (.lcmp, 1) := by decide +kernel
theorem d1_5 : decode prog_87_method_2_code 5 = .ok (.ifCond .gt 7, 3) := by decide +kernel
theorem d1_8 : decode prog_87_method_2_code 8 = .ok (.iconst 1, 1) := by decide +kernel
theorem d1_9 : decode prog_87_method_2_code 9 = .ok (.goto 4, 3) := by decide +kernel
theorem d1_12 : decode prog_87_method_2_code 12 = .ok (.iconst 0, 1) := by decide +kernel
theorem d1_13 : decode prog_87_method_2_code 13 = .ok (.ireturn, 1) := by decide +kernel
theorem d2_0 : decode prog_87_method_4_code 0 = .ok (.lload_n 0, 1) := by decide +kernel
theorem d2_1 : decode prog_87_method_4_code 1 = .ok (.lconst 1, 1) := by decide +kernel
theorem d2_2 : decode prog_87_method_4_code 2 = .ok (.invokestatic 15, 3) := by decide +kernel
theorem d2_5 : decode prog_87_method_4_code 5 = .ok (.lreturn, 1) := by decide +kernel
theorem d3_0 : decode jdk_29_method_25_code 0 = .ok (.lload_n 0, 1) := by decide +kernel
theorem d3_1 : decode jdk_29_method_25_code 1 = .ok (.lload_n 2, 1) := by decide +kernel
theorem d3_2 : decode jdk_29_method_25_code 2 = .ok (.ladd, 1) := by decide +kernel
theorem d3_3 : decode jdk_29_method_25_code 3 = .ok (.lstore 4, 2) := by decide +kernel
theorem d3_5 : decode jdk_29_method_25_code 5 = .ok (.lload_n 0, 1) := by decide +kernel
theorem d3_6 : decode jdk_29_method_25_code 6 = .ok (.lload 4, 2) := by decide +kernel
theorem d3_8 : decode jdk_29_method_25_code 8 = .ok (.lxor, 1) := by decide +kernel
theorem d3_9 : decode jdk_29_method_25_code 9 = .ok (.lload_n 2, 1) := by decide +kernel
theorem d3_10 : decode jdk_29_method_25_code 10 = .ok (.lload 4, 2) := by decide +kernel
theorem d3_12 : decode jdk_29_method_25_code 12 = .ok (.lxor, 1) := by decide +kernel
theorem d3_13 : decode jdk_29_method_25_code 13 = .ok (.land, 1) := by decide +kernel
theorem d3_14 : decode jdk_29_method_25_code 14 = .ok (.lconst 0, 1) := by decide +kernel
theorem d3_15 : decode jdk_29_method_25_code 15 = .ok (.lcmp, 1) := by decide +kernel
theorem d3_16 : decode jdk_29_method_25_code 16 = .ok (.ifCond .ge 13, 3) := by decide +kernel
theorem d3_29 : decode jdk_29_method_25_code 29 = .ok (.lload 4, 2) := by decide +kernel
theorem d3_31 : decode jdk_29_method_25_code 31 = .ok (.lreturn, 1) := by decide +kernel
theorem pd0 : parseMethodDescriptor "(JJ)J" = some ⟨[.long, .long], some .long⟩ := by decide +kernel
theorem pd1 : parseMethodDescriptor "(J)Z" = some ⟨[.long], some .boolean⟩ := by decide +kernel
theorem pd2 : parseMethodDescriptor "(J)J" = some ⟨[.long], some .long⟩ := by decide +kernel
theorem pn_m1 : plainFor (⟨"com/example/lost_update_guard/lostupdateguard/VersionStep", "hasNext", "(J)Z"⟩ : MethodName) = true := by first | (refine plainFor_of_name ?_; simp [plainName, overriddenIn]; done) | (refine plainFor_of_name ?_; decide +kernel) | decide +kernel
set_option maxRecDepth 65536 in
set_option maxHeartbeats 40000000 in
theorem m1 (l : Launch) (Z : State) (n0 : Nat) (a0 : Array Value) (hw : ∀ d ∈ tables_1, d.before a0 Z = true) (σ : Asn) (v : Int64) : Sp l Z n0 (⟨"com/example/lost_update_guard/lostupdateguard/VersionStep", "hasNext", "(J)Z"⟩ : MethodName) prog_87_method_2_code 2 (some .boolean) ({ frames := 0, cells := 0, slots := 0, locals := 0 } : Room) [(.long v)] (σ) (Ret (some (.int (own_hn v))) σ) := by
  refine Sp.of (ls := #[.val (.long v), .second]) pn_m1 (fun m => by first | (simp [entryFrame, mkF, argsToLocals, Value.category]; done) | rfl) ?_
  show W _ _ _ _ _ _ 0 0 (σ) 0 #[.val (.long v), .second] []
  refine W.lloadN d1_0 (pc' := 1) rfl rfl ?_
  refine W.ldc2J d1_1 (wd hw 6 rfl) (pc' := 4) rfl ?_
  refine W.lcmp d1_4 (pc' := 5) rfl ?_
  by_cases h1 : (9223372036854775806 : Int64) < v
  · refine W.ifY d1_5 (XT.ll_gt_t h1) (by decide) (pc' := 12) rfl ?_
    refine W.iconst (0 : Int32) d1_12 (pc' := 13) rfl rfl ?_
    exact W.retN (t := .boolean) 0 d1_13 rfl (by simp) rfl (by decide) (by decide) ⟨by simp [own_hn, h1], rfl⟩
  · refine W.ifN d1_5 (XT.ll_gt_f h1) (pc' := 8) rfl ?_
    refine W.iconst (1 : Int32) d1_8 (pc' := 9) rfl rfl ?_
    refine W.goto d1_9 (pc' := 13) (by decide) rfl ?_
    exact W.retN (t := .boolean) 1 d1_13 rfl (by simp) rfl (by decide) (by decide) ⟨by simp [own_hn, h1], rfl⟩
theorem pn_m3 : plainFor (⟨"java/lang/Math", "addExact", "(JJ)J"⟩ : MethodName) = true := by first | (refine plainFor_of_name ?_; simp [plainName, overriddenIn]; done) | (refine plainFor_of_name ?_; decide +kernel) | decide +kernel
set_option maxRecDepth 65536 in
set_option maxHeartbeats 40000000 in
theorem m3 (l : Launch) (Z : State) (n0 : Nat) (a0 : Array Value) (hw : ∀ d ∈ tables_1, d.before a0 Z = true) (σ : Asn) (x y : Int64) (hf : XT.fits64 (x.toInt + y.toInt)) : Sp l Z n0 (⟨"java/lang/Math", "addExact", "(JJ)J"⟩ : MethodName) jdk_29_method_25_code 6 (some .long) ({ frames := 0, cells := 0, slots := 0, locals := 0 } : Room) [(.long x), (.long y)] (σ) (Ret (some (.long (x + y))) σ) := by
  refine Sp.of (ls := #[.val (.long x), .second, .val (.long y), .second, .unset, .unset]) pn_m3 (fun m => by first | (simp [entryFrame, mkF, argsToLocals, Value.category]; done) | rfl) ?_
  show W _ _ _ _ _ _ 0 0 (σ) 0 #[.val (.long x), .second, .val (.long y), .second, .unset, .unset] []
  refine W.lloadN d3_0 (pc' := 1) rfl rfl ?_
  refine W.lloadN d3_1 (pc' := 2) rfl rfl ?_
  refine W.ladd d3_2 (pc' := 3) rfl ?_
  refine W.lstore #[.val (.long x), .second, .val (.long y), .second, .val (.long (x + y)), .second] d3_3 (pc' := 5) rfl rfl ?_
  refine W.lloadN d3_5 (pc' := 6) rfl rfl ?_
  refine W.lload d3_6 (pc' := 8) rfl rfl ?_
  refine W.lxor d3_8 (pc' := 9) rfl ?_
  refine W.lloadN d3_9 (pc' := 10) rfl rfl ?_
  refine W.lload d3_10 (pc' := 12) rfl rfl ?_
  refine W.lxor d3_12 (pc' := 13) rfl ?_
  refine W.land d3_13 (pc' := 14) rfl ?_
  refine W.lconst (0 : Int64) d3_14 (pc' := 15) rfl rfl ?_
  refine W.lcmp d3_15 (pc' := 16) rfl ?_
  refine W.ifY d3_16 (XT.ll_ge_t (XT.addOk64 hf)) (by decide) (pc' := 29) rfl ?_
  refine W.lload d3_29 (pc' := 31) rfl rfl ?_
  exact W.retJ d3_31 rfl (by decide) (by decide) ⟨rfl, rfl⟩
theorem pn_m2 : plainFor (⟨"com/example/lost_update_guard/lostupdateguard/VersionStep", "next", "(J)J"⟩ : MethodName) = true := by first | (refine plainFor_of_name ?_; simp [plainName, overriddenIn]; done) | (refine plainFor_of_name ?_; decide +kernel) | decide +kernel
set_option maxRecDepth 65536 in
set_option maxHeartbeats 40000000 in
theorem m2 (l : Launch) (Z : State) (n0 : Nat) (a0 : Array Value) (hw : ∀ d ∈ tables_1, d.before a0 Z = true) (σ : Asn) (v : Int64) (hf : XT.fits64 (v.toInt + (1 : Int64).toInt)) : Sp l Z n0 (⟨"com/example/lost_update_guard/lostupdateguard/VersionStep", "next", "(J)J"⟩ : MethodName) prog_87_method_4_code 2 (some .long) ({ frames := 1, cells := 0, slots := 0, locals := 20 } : Room) [(.long v)] (σ) (Ret (some (.long (v + 1))) σ) := by
  refine Sp.of (ls := #[.val (.long v), .second]) pn_m2 (fun m => by first | (simp [entryFrame, mkF, argsToLocals, Value.category]; done) | rfl) ?_
  show W _ _ _ _ _ _ 0 0 (σ) 0 #[.val (.long v), .second] []
  refine W.lloadN d2_0 (pc' := 1) rfl rfl ?_
  refine W.lconst (1 : Int64) d2_1 (pc' := 2) rfl rfl ?_
  refine W.callS (m3 l Z n0 a0 hw σ v 1 hf) d2_2 (wd hw 11 rfl) (wd hw 12 rfl) (wd hw 13 rfl) (wd hw 14 rfl) (by decide) pd0 rfl rfl (Nat.le_of_ble_eq_true rfl) (Nat.le_of_ble_eq_true rfl) (Nat.le_of_ble_eq_true rfl) (Nat.le_of_ble_eq_true rfl) rfl (pc' := 5) rfl ?_
  intro v9 s9 q9
  rw [q9.1, q9.2]
  clear q9 v9 s9
  show W _ _ _ _ _ _ 0 0 (σ) 5 #[.val (.long v), .second] [(.long (v + 1))]
  exact W.retJ d2_5 rfl (by decide) (by decide) ⟨rfl, rfl⟩
theorem pn_m0 : plainFor x = true := by first | (refine plainFor_of_name ?_; simp [plainName, overriddenIn]; done) | (refine plainFor_of_name ?_; decide +kernel) | decide +kernel
set_option maxRecDepth 65536 in
set_option maxHeartbeats 40000000 in
theorem m0 (l : Launch) (Z : State) (n0 : Nat) (a0 : Array Value) (hw : ∀ d ∈ tables_1, d.before a0 Z = true) (xx : Int64) (sel : Int32) : Sp l Z n0 x code maxLocals ret room_1 [(.long xx), (.int sel)] [] (fun v _ => v = some (.int 1)) := by
  refine Sp.of (ls := #[.val (.long xx), .second, .val (.int sel), .unset, .unset, .unset, .unset, .unset, .unset]) pn_m0 (fun m => by first | (simp [entryFrame, mkF, argsToLocals, Value.category, maxLocals]; done) | rfl) ?_
  show W _ _ _ _ _ _ 0 0 [] 0 #[.val (.long xx), .second, .val (.int sel), .unset, .unset, .unset, .unset, .unset, .unset] []
  refine W.iloadN at_0 (pc' := 1) rfl rfl ?_
  refine W.iconst (1 : Int32) at_1 (pc' := 2) rfl rfl ?_
  refine W.iand at_2 (pc' := 3) rfl ?_
  have j40 : ∀ (v : Int64), W l Z n0 (x.cls, x.name, code, maxLocals, ret) room_1 (fun v _ => v = some (.int 1)) 0 0 [] 40 #[.val (.long xx), .second, .val (.int sel), .val (.long v), .second, .unset, .unset, .unset, .unset] [] := by
    intro v
    refine W.lloadN at_40 (pc' := 41) rfl rfl ?_
    refine W.callS (m1 l Z n0 a0 hw [] v) at_41 (wd hw 2 rfl) (wd hw 3 rfl) (wd hw 4 rfl) (wd hw 5 rfl) (by decide) pd1 rfl rfl (Nat.le_of_ble_eq_true rfl) (Nat.le_of_ble_eq_true rfl) (Nat.le_of_ble_eq_true rfl) (Nat.le_of_ble_eq_true rfl) rfl (pc' := 44) rfl ?_
    intro v9 s9 q9
    rw [q9.1, q9.2]
    clear q9 v9 s9
    show W _ _ _ _ _ _ 0 0 [] 44 #[.val (.long xx), .second, .val (.int sel), .val (.long v), .second, .unset, .unset, .unset, .unset] [(.int (own_hn v))]
    refine W.istore #[.val (.long xx), .second, .val (.int sel), .val (.long v), .second, .val (.int (own_hn v)), .unset, .unset, .unset] at_44 (pc' := 46) rfl rfl ?_
    refine W.lloadN at_46 (pc' := 47) rfl rfl ?_
    refine W.ldc2J at_47 (wd hw 7 rfl) (pc' := 50) rfl ?_
    refine W.lcmp at_50 (pc' := 51) rfl ?_
    have j_z : ∀ (z : Int32) (_ : z = (if v = (9223372036854775807 : Int64) then (0 : Int32) else (1 : Int32))), W l Z n0 (x.cls, x.name, code, maxLocals, ret) room_1 (fun v _ => v = some (.int 1)) 0 0 [] 59 #[.val (.long xx), .second, .val (.int sel), .val (.long v), .second, .val (.int (own_hn v)), .unset, .unset, .unset] [(.int z)] := by
      intro z h_z
      refine W.istore #[.val (.long xx), .second, .val (.int sel), .val (.long v), .second, .val (.int (own_hn v)), .val (.int z), .unset, .unset] at_59 (pc' := 61) rfl rfl ?_
      refine W.iload at_61 (pc' := 63) rfl rfl ?_
      refine W.iload at_63 (pc' := 65) rfl rfl ?_
      refine W.icmpY at_65 (XT.ii_eq_t (own_ref v z h_z)) (by decide) (pc' := 70) rfl ?_
      refine W.iload at_70 (pc' := 72) rfl rfl ?_
      by_cases h4 : (own_hn v) = 0
      · refine W.ifY at_72 (XT.i0_eq_t h4) (by decide) (pc' := 103) rfl ?_
        refine W.iconst (1 : Int32) at_103 (pc' := 104) rfl rfl ?_
        exact W.retN (t := .boolean) 1 at_104 rfl (by simp) rfl (by decide) (by decide) rfl
      · refine W.ifN at_72 (XT.i0_eq_f h4) (pc' := 75) rfl ?_
        refine W.lloadN at_75 (pc' := 76) rfl rfl ?_
        refine W.callS (m2 l Z n0 a0 hw [] v (own_fits h4)) at_76 (wd hw 8 rfl) (wd hw 9 rfl) (wd hw 4 rfl) (wd hw 10 rfl) (by decide) pd2 rfl rfl (Nat.le_of_ble_eq_true rfl) (Nat.le_of_ble_eq_true rfl) (Nat.le_of_ble_eq_true rfl) (Nat.le_of_ble_eq_true rfl) rfl (pc' := 79) rfl ?_
        intro v9 s9 q9
        rw [q9.1, q9.2]
        clear q9 v9 s9
        show W _ _ _ _ _ _ 0 0 [] 79 #[.val (.long xx), .second, .val (.int sel), .val (.long v), .second, .val (.int (own_hn v)), .val (.int z), .unset, .unset] [(.long (v + 1))]
        refine W.lstore #[.val (.long xx), .second, .val (.int sel), .val (.long v), .second, .val (.int (own_hn v)), .val (.int z), .val (.long (v + 1)), .second] at_79 (pc' := 81) rfl rfl ?_
        refine W.lload at_81 (pc' := 83) rfl rfl ?_
        refine W.lloadN at_83 (pc' := 84) rfl rfl ?_
        refine W.lcmp at_84 (pc' := 85) rfl ?_
        refine W.ifN at_85 (XT.ll_le_f (own_up (own_fits h4))) (pc' := 88) rfl ?_
        refine W.lload at_88 (pc' := 90) rfl rfl ?_
        refine W.lconst (1 : Int64) at_90 (pc' := 91) rfl rfl ?_
        refine W.lsub at_91 (pc' := 92) rfl ?_
        refine W.lloadN at_92 (pc' := 93) rfl rfl ?_
        refine W.lcmp at_93 (pc' := 94) rfl ?_
        refine W.ifN at_94 (XT.ll_ne_f own_down) (pc' := 97) rfl ?_
        refine W.iconst (1 : Int32) at_97 (pc' := 98) rfl rfl ?_
        refine W.goto at_98 (pc' := 102) (by decide) rfl ?_
        exact W.retN (t := .boolean) 1 at_102 rfl (by simp) rfl (by decide) (by decide) rfl
    by_cases h3 : v = (9223372036854775807 : Int64)
    · refine W.ifY at_51 (XT.ll_eq_t h3) (by decide) (pc' := 58) rfl ?_
      refine W.iconst (0 : Int32) at_58 (pc' := 59) rfl rfl ?_
      exact j_z _ (if_pos h3).symm
    · refine W.ifN at_51 (XT.ll_eq_f h3) (pc' := 54) rfl ?_
      refine W.iconst (1 : Int32) at_54 (pc' := 55) rfl rfl ?_
      refine W.goto at_55 (pc' := 59) (by decide) rfl ?_
      exact j_z _ (if_neg h3).symm
  by_cases h1 : (sel &&& (1 : Int32)) = 0
  · refine W.ifY at_3 (XT.i0_eq_t h1) (by decide) (pc' := 19) rfl ?_
    refine W.iloadN at_19 (pc' := 20) rfl rfl ?_
    refine W.iconst (2 : Int32) at_20 (pc' := 21) rfl rfl ?_
    refine W.iand at_21 (pc' := 22) rfl ?_
    by_cases h2 : (sel &&& (2 : Int32)) = 0
    · refine W.ifY at_22 (XT.i0_eq_t h2) (by decide) (pc' := 38) rfl ?_
      refine W.lloadN at_38 (pc' := 39) rfl rfl ?_
      refine W.lstoreN #[.val (.long xx), .second, .val (.int sel), .val (.long xx), .second, .unset, .unset, .unset, .unset] at_39 (pc' := 40) rfl rfl ?_
      exact j40 _
    · refine W.ifN at_22 (XT.i0_eq_f h2) (pc' := 25) rfl ?_
      refine W.ldc2J at_25 (wd hw 0 rfl) (pc' := 28) rfl ?_
      refine W.lloadN at_28 (pc' := 29) rfl rfl ?_
      refine W.ldc2J at_29 (wd hw 1 rfl) (pc' := 32) rfl ?_
      refine W.land at_32 (pc' := 33) rfl ?_
      refine W.ladd at_33 (pc' := 34) rfl ?_
      refine W.lstoreN #[.val (.long xx), .second, .val (.int sel), .val (.long ((-9223372036854775808 : Int64) + (xx &&& (3 : Int64)))), .second, .unset, .unset, .unset, .unset] at_34 (pc' := 35) rfl rfl ?_
      refine W.goto at_35 (pc' := 40) (by decide) rfl ?_
      exact j40 _
  · refine W.ifN at_3 (XT.i0_eq_f h1) (pc' := 6) rfl ?_
    refine W.ldc2J at_6 (wd hw 7 rfl) (pc' := 9) rfl ?_
    refine W.lloadN at_9 (pc' := 10) rfl rfl ?_
    refine W.ldc2J at_10 (wd hw 1 rfl) (pc' := 13) rfl ?_
    refine W.land at_13 (pc' := 14) rfl ?_
    refine W.lsub at_14 (pc' := 15) rfl ?_
    refine W.lstoreN #[.val (.long xx), .second, .val (.int sel), .val (.long ((9223372036854775807 : Int64) - (xx &&& (3 : Int64)))), .second, .unset, .unset, .unset, .unset] at_15 (pc' := 16) rfl rfl ?_
    refine W.goto at_16 (pc' := 40) (by decide) rfl ?_
    exact j40 _
set_option maxRecDepth 65536 in
theorem comes_1 {Post : Tables → Env → Array Value → State → Outcome → State → Prop} (hpost : ∀ tb e args s v u, (limb_1_1.after args s (.returned v) u = true ∧ limb_1_2.after args s (.returned v) u = true ∧ True) → FrameEnd s (.returned v) u (Jvm.fieldLocs frame_1_writes args s ++ Jvm.arrayLocs frame_1_arrays args s ++ Jvm.staticLocs frame_1_statics s) 0 0 → Post tb e args s (.returned v) u) :
    ArmFor flags0 classFile x code maxLocals ret World_1 tables_1 room_1 Calls_1 rest_1 Pre_1 Post := by
  intro l hfl _ _ p e ha hc hk s m args below hf hA hF happ hP
  obtain ⟨hcalls, hrest, hpre⟩ := hP
  obtain ⟨-, -, -, hnamed, -, -, -, hat⟩ := (Spec.applies_iff hf).mp happ
  obtain ⟨hg, hn⟩ := and_e (Cond.before_iff.mp (show (Jvm.Cond.and given_1 narrow_1).before args s = true from hpre))
  obtain ⟨g0, t0⟩ := and_e hg
  obtain ⟨g1, t1⟩ := and_e t0
  obtain ⟨w0, w1, rfl⟩ : ∃ w0 w1 : Value, args = #[w0, w1] := by
    have hs : args.size = 2 := by simpa [Cond.value, given_1] using g0
    obtain ⟨L⟩ := args
    match L, hs with
    | [w0, w1], _ => exact ⟨w0, w1, rfl⟩
  have hw := fun d (hd : d ∈ tables_1) => atoms_spec (ws := Jvm.Cond.code x code maxLocals ret :: tables_1) hat d (List.mem_cons_of_mem _ hd)
  obtain ⟨xx, e_xx⟩ := isL_v g1
  obtain rfl : w0 = (.long xx) := Option.some.inj e_xx
  obtain ⟨sel, e_sel⟩ := is_v t1
  obtain rfl : w1 = (.int sel) := Option.some.inj e_sel
  have hsep : Sep s s.heap.size s.heap [] := ⟨Old.start s, fun _ q => absurd q (List.not_mem_nil), List.nodup_nil⟩
  obtain ⟨n, o, h1, h2, h3, _, L, rfl, ⟨⟨_, rfl, -⟩, N⟩, hq⟩ := m0 l s s.heap.size _ hw xx sel tables_1 s.heap hsep p e ha hc hk s m _ below hf ((Spec.applies_iff_loose hf).mp happ).1 ⟨rfl, State.Warmed39.refl s, rfl⟩ trivial
  refine ⟨n, _, h1, h2, h3, hpost _ _ _ _ _ _ ⟨Cond.after_iff.mpr rfl, Cond.after_iff.mpr (eq_i res_at (Term.int_eval (1)) rfl), trivial⟩ ⟨hq.1, hq.2.1, (hq.2.2.sift fun y hy => Or.inr (N y hy)).mono (by decide) (by decide)⟩⟩
theorem main_1_1 : Claimed_1_1 := comes_1 fun _ _ _ _ _ _ h hF => ⟨h.1, hF⟩
theorem main_1_2 : Claimed_1_2 := comes_1 fun _ _ _ _ _ _ h hF => ⟨h.2.1, hF⟩
end Jvm.Pilot.@@N@@
namespace Jvm.Pilot.@@N@@
open Jvm Jvm.ClassFile Sem Op Lib Jvm.Free Jvm.Stand Jvm.Pilot.@@N@@.Jvm.D
/-! MADE BY PROGRAM (witnessworld.py) out of the Statement's table words and the real class files: 10 classes; the members and pool entries that the words name. The judged class is class 1, her method 1. -/
namespace start1
open Jvm.ClassFile
def u (s : String) : CpInfo := .utf8 (stringToUtf16 s)
/-- a pool by its gaps: so many unusable entries, then the entry; so many at the end -/
def gap : Nat → List CpInfo → List CpInfo
  | 0, r => r
  | n + 1, r => .unusable :: gap n r
def poolList (es : List (Nat × CpInfo)) (last : Nat) : List CpInfo := es.foldr (fun e r => gap e.1 (e.2 :: r)) (gap last [])
def pool (es : List (Nat × CpInfo)) (last : Nat) : Array CpInfo := ⟨poolList es last⟩
def fileOf (pool : Array CpInfo) (this : Nat) (attrs : Array Attribute := #[]) (ms : Array MethodInfo := #[]) (fl : Nat := 33) (sup : Nat := 0) (ifs : Array Nat := #[]) (fds : Array FieldInfo := #[]) : ClassFile where
  minorVersion := 0
  majorVersion := 65
  constantPool := pool
  accessFlags := fl
  thisClass := this
  superClass := sup
  interfaces := ifs
  fields := fds
  methods := ms
  attributes := attrs
def plain (name : String) (sup : Option ClassId) : Class where
  name := name
  kind := .ordinary
  loader := none
  accessFlags := 33
  super := sup
  interfaces := #[]
  cf := none
  fields := #[]
  methods := #[]
  instanceTypes := #[]
  staticTypes := #[]
  resolved := #[]
  callSites := []
  init := .initialized
  statics := none
  mirror := none

def pool0 : Array CpInfo := pool [(5, u "<init>"), (0, u "()V"), (1, .class_ 10), (1, u "java/lang/Object")] 113

def k0m0 : Method := { name := "<init>", desc := "()V", sig := { parameters := [], returnType := none }, accessFlags := 1, code := none }
/-- java/lang/Object -/
def k0 : Class := { plain "java/lang/Object" none with
  accessFlags := 33
  interfaces := #[]
  cf := some (fileOf pool0 8 #[] #[{ accessFlags := 1, nameIndex := 5, descriptorIndex := 6, attributes := #[] }] 33 0 #[] #[])
  fields := #[]
  methods := #[k0m0]
  instanceTypes := #[]
  staticTypes := #[]
  resolved := Array.replicate 124 none
  statics := none }

def pool1 : Array CpInfo := pool [(2, .class_ 4), (1, u "java/lang/Object"), (0, u "<init>"), (0, u "()V"), (2, .long 9223372036854775807), (1, .long 3), (1, .long 9223372036854775808), (1, .methodref 16 17), (0, .class_ 18), (0, .nameAndType 19 20), (0, u "com/example/lost_update_guard/lostupdateguard/VersionStep"), (0, u "hasNext"), (0, u "(J)Z"), (0, .methodref 16 22), (0, .nameAndType 23 24), (0, u "next"), (0, u "(J)J"), (0, .class_ 26), (0, u "com/example/lost_update_guard/lostupdateguard/VersionStepHasNextPinLaw"), (2, u "law"), (0, u "(JI)Z")] 3

def k1m0 : Method := { name := "<init>", desc := "()V", sig := { parameters := [], returnType := none }, accessFlags := 2, code := none }
def k1c1 : Code := { maxStack := 6, maxLocals := 9, code := code, exceptionTable := #[], attributes := #[] }
def k1m1 : Method := { name := "law", desc := "(JI)Z", sig := { parameters := [.long, .int], returnType := some .boolean }, accessFlags := 9, code := some k1c1 }
/-- com/example/lost_update_guard/lostupdateguard/VersionStepHasNextPinLaw -/
def k1 : Class := { plain "com/example/lost_update_guard/lostupdateguard/VersionStepHasNextPinLaw" (some 0) with
  accessFlags := 49
  interfaces := #[]
  cf := some (fileOf pool1 25 #[] #[{ accessFlags := 2, nameIndex := 5, descriptorIndex := 6, attributes := #[] }, { accessFlags := 9, nameIndex := 29, descriptorIndex := 30, attributes := #[] }] 49 2 #[] #[])
  fields := #[]
  methods := #[k1m0, k1m1]
  instanceTypes := #[]
  staticTypes := #[]
  resolved := Array.replicate 34 none
  statics := none }

def pool2 : Array CpInfo := pool [(2, .class_ 4), (1, u "java/lang/Object"), (0, u "<init>"), (0, u "()V"), (2, .class_ 10), (0, u "com/example/lost_update_guard/lostupdateguard/VersionStep"), (0, .long 9223372036854775806), (3, .methodref 16 17), (0, .class_ 18), (0, .nameAndType 19 20), (0, u "java/lang/Math"), (0, u "addExact"), (0, u "(JJ)J"), (4, u "STEP"), (0, u "J"), (5, u "hasNext"), (0, u "(J)Z"), (3, u "next"), (0, u "(J)J")] 17

def k2m0 : Method := { name := "<init>", desc := "()V", sig := { parameters := [], returnType := none }, accessFlags := 2, code := none }
def k2c1 : Code := { maxStack := 4, maxLocals := 2, code := prog_87_method_2_code, exceptionTable := #[], attributes := #[] }
def k2m1 : Method := { name := "hasNext", desc := "(J)Z", sig := { parameters := [.long], returnType := some .boolean }, accessFlags := 8, code := some k2c1 }
def k2c2 : Code := { maxStack := 4, maxLocals := 2, code := prog_87_method_4_code, exceptionTable := #[], attributes := #[] }
def k2m2 : Method := { name := "next", desc := "(J)J", sig := { parameters := [.long], returnType := some .long }, accessFlags := 8, code := some k2c2 }
/-- com/example/lost_update_guard/lostupdateguard/VersionStep -/
def k2 : Class := { plain "com/example/lost_update_guard/lostupdateguard/VersionStep" (some 0) with
  accessFlags := 32
  interfaces := #[]
  cf := some (fileOf pool2 9 #[] #[{ accessFlags := 2, nameIndex := 5, descriptorIndex := 6, attributes := #[] }, { accessFlags := 8, nameIndex := 32, descriptorIndex := 33, attributes := #[] }, { accessFlags := 8, nameIndex := 37, descriptorIndex := 38, attributes := #[] }] 32 2 #[] #[{ accessFlags := 26, nameIndex := 25, descriptorIndex := 26, attributes := #[] }])
  fields := #[{ name := "STEP", type := .long, accessFlags := 26, slot := 0, constantValue := 0 }]
  methods := #[k2m0, k2m1, k2m2]
  instanceTypes := #[]
  staticTypes := #[.long]
  resolved := Array.replicate 56 none
  statics := none }

def pool3 : Array CpInfo := pool [(1, .class_ 2), (0, u "java/lang/Math"), (1, .class_ 6), (1, u "java/lang/Object"), (0, u "<init>"), (0, u "()V"), (89, .class_ 100), (1, u "java/lang/Math$RandomNumberGeneratorHolder"), (20, u "(JJ)J"), (50, u "negativeZeroFloatBits"), (0, u "J"), (2, u "negativeZeroDoubleBits"), (68, u "$assertionsDisabled"), (0, u "Z"), (91, u "twoToTheDoubleScaleDown"), (0, u "D"), (4, u "twoToTheDoubleScaleUp"), (9, u "E"), (3, u "PI"), (2, u "TAU"), (2, u "DEGREES_TO_RADIANS"), (0, u "RADIANS_TO_DEGREES"), (27, u "addExact")] 66

def k3m0 : Method := { name := "<init>", desc := "()V", sig := { parameters := [], returnType := none }, accessFlags := 2, code := none }
def k3c1 : Code := { maxStack := 6, maxLocals := 6, code := jdk_29_method_25_code, exceptionTable := #[], attributes := #[] }
def k3m1 : Method := { name := "addExact", desc := "(JJ)J", sig := { parameters := [.long, .long], returnType := some .long }, accessFlags := 9, code := some k3c1 }
/-- java/lang/Math -/
def k3 : Class := { plain "java/lang/Math" (some 0) with
  accessFlags := 49
  interfaces := #[]
  cf := some (fileOf pool3 1 #[.nestMembers #[98]] #[{ accessFlags := 2, nameIndex := 7, descriptorIndex := 8, attributes := #[] }, { accessFlags := 9, nameIndex := 393, descriptorIndex := 121, attributes := #[] }] 49 4 #[] #[{ accessFlags := 25, nameIndex := 354, descriptorIndex := 339, attributes := #[] }, { accessFlags := 25, nameIndex := 358, descriptorIndex := 339, attributes := #[] }, { accessFlags := 25, nameIndex := 361, descriptorIndex := 339, attributes := #[] }, { accessFlags := 26, nameIndex := 364, descriptorIndex := 339, attributes := #[] }, { accessFlags := 26, nameIndex := 365, descriptorIndex := 339, attributes := #[] }, { accessFlags := 26, nameIndex := 172, descriptorIndex := 173, attributes := #[] }, { accessFlags := 26, nameIndex := 176, descriptorIndex := 173, attributes := #[] }, { accessFlags := 8, nameIndex := 344, descriptorIndex := 339, attributes := #[] }, { accessFlags := 8, nameIndex := 338, descriptorIndex := 339, attributes := #[] }, { accessFlags := 4120, nameIndex := 245, descriptorIndex := 246, attributes := #[] }])
  fields := #[{ name := "E", type := .double, accessFlags := 25, slot := 0, constantValue := 0 }, { name := "PI", type := .double, accessFlags := 25, slot := 1, constantValue := 0 }, { name := "TAU", type := .double, accessFlags := 25, slot := 2, constantValue := 0 }, { name := "DEGREES_TO_RADIANS", type := .double, accessFlags := 26, slot := 3, constantValue := 0 }, { name := "RADIANS_TO_DEGREES", type := .double, accessFlags := 26, slot := 4, constantValue := 0 }, { name := "negativeZeroFloatBits", type := .long, accessFlags := 26, slot := 5, constantValue := 0 }, { name := "negativeZeroDoubleBits", type := .long, accessFlags := 26, slot := 6, constantValue := 0 }, { name := "twoToTheDoubleScaleUp", type := .double, accessFlags := 8, slot := 7, constantValue := 0 }, { name := "twoToTheDoubleScaleDown", type := .double, accessFlags := 8, slot := 8, constantValue := 0 }, { name := "$assertionsDisabled", type := .boolean, accessFlags := 4120, slot := 9, constantValue := 0 }]
  methods := #[k3m0, k3m1]
  instanceTypes := #[]
  staticTypes := #[.double, .double, .double, .double, .double, .long, .long, .double, .double, .boolean]
  resolved := Array.replicate 460 none
  statics := none }

def pool4 : Array CpInfo := pool [(1, u "java/lang/Cloneable"), (0, .class_ 1), (0, u "java/lang/Object"), (0, .class_ 3)] 3

/-- java/lang/Cloneable -/
def k4 : Class := { plain "java/lang/Cloneable" (some 0) with
  accessFlags := 1537
  interfaces := #[]
  cf := some (fileOf pool4 2 #[] #[] 1537 4 #[] #[])
  fields := #[]
  methods := #[]
  instanceTypes := #[]
  staticTypes := #[]
  resolved := Array.replicate 8 none
  statics := none }

def pool5 : Array CpInfo := pool [(1, u "java/io/Serializable"), (0, .class_ 1), (0, u "java/lang/Object"), (0, .class_ 3)] 3

/-- java/io/Serializable -/
def k5 : Class := { plain "java/io/Serializable" (some 0) with
  accessFlags := 1537
  interfaces := #[]
  cf := some (fileOf pool5 2 #[] #[] 1537 4 #[] #[])
  fields := #[]
  methods := #[]
  instanceTypes := #[]
  staticTypes := #[]
  resolved := Array.replicate 8 none
  statics := none }

/-- the primitive byte -/
def k6 : Class := { plain "byte" none with kind := .primitive 'B', accessFlags := 0x411 }
/-- [B -/
def k7 : Class := { plain "[B" (some 0) with kind := .array 6 .byte, interfaces := #[4, 5], accessFlags := 1041 }

/-- the primitive int -/
def k8 : Class := { plain "int" none with kind := .primitive 'I', accessFlags := 0x411 }
/-- [I -/
def k9 : Class := { plain "[I" (some 0) with kind := .array 8 .int, interfaces := #[4, 5], accessFlags := 1041 }

def heap : Heap := #[]
def classes : Array Class := #[k0, k1, k2, k3, k4, k5, k6, k7, k8, k9]
def interned : List (Array UInt16 × Addr) := []
def slotsUsed : Nat := 0
def theMethod : MethodId := ⟨1, 1⟩
def args0 : Array Value := #[.long 5, .int 0]
def aboutOver (below : List Frame) : State where
  vm := { classes := classes, interned := interned.toArray }
  heap := heap
  slotsUsed := slotsUsed
  threads := #[{ frames := .invoking theMethod args0 :: below }]
def below0 : List Frame := [.native { method := ⟨0, 0⟩, args := #[] }]
def about1 : State := aboutOver below0
def p0 : Program := .bare "" "" ""
def e0 : Env := launch0.env 0 0 0
theorem w_frames : about1.frames = Frame.invoking theMethod args0 :: below0 := rfl
set_option maxRecDepth 65536 in
theorem w_args : argsFit about1.vm theMethod args0 = true := by decide +kernel
set_option maxRecDepth 65536 in
theorem w_heap : heapFits about1 = true := by decide +kernel
set_option maxRecDepth 65536 in
theorem w_runnable : about1.curStatus? = some .runnable := by decide +kernel
set_option maxRecDepth 65536 in
theorem w_alone : about1.alone = true := by decide +kernel
set_option maxRecDepth 65536 in
theorem w_named : about1.methodNamed? x = some theMethod := by decide +kernel
set_option maxRecDepth 65536 in
theorem w_hears : about1.hears theMethod below0 = true := by decide +kernel
set_option maxRecDepth 65536 in
theorem w_ripe : about1.ripe theMethod args0 below0 = true := by decide +kernel
theorem w_running : about1.status = .running := rfl
set_option maxRecDepth 65536 in
theorem w_room : about1.hasRoom e0.platform room_1 = true :=
  launch0.hasRoom_least _ room_1 (by decide +kernel) (by decide +kernel) (by decide +kernel) (by decide +kernel) (by decide +kernel) (by decide +kernel)
theorem allAtoms_all (ts : List Jvm.Cond) (a : Array Jvm.Value) (st : Jvm.State) : (allAtoms ts).before a st = ts.all (fun c => c.before a st) := by
  induction ts with
  | nil => rfl
  | cons c t ih =>
    show (Jvm.Cond.and c (allAtoms t)).before a st = _
    rw [Jvm.Cond.before_and, ih, List.all_cons]
def words1 : List Jvm.Cond := Jvm.Cond.code x code maxLocals ret :: tables_1
/-- a 'code' word, met by the world's own term for the bytes: nothing is compared byte by byte -/
theorem code_word {y : MethodName} {bytes : ByteArray} {mx : Nat} {rt : Option FieldType} {a : Array Value} {s : State} {m : MethodId} {meth : Method} {c : Code} (h1 : s.methodNamed? y = some m) (h2 : s.vm.method? m = some meth) (h3 : meth.code = some c) (h4 : c.code = bytes)
    (h5 : (c.maxLocals == mx && c.exceptionTable.isEmpty && decide (c.maxStack ≤ mostOperands) && decide (meth.sig.returnType = rt) && !meth.locks && decide (parseMethodDescriptor y.desc = some meth.sig)) = true) : (Jvm.Cond.code y bytes mx rt).before a s = true := by
  simp only [Bool.and_eq_true, beq_iff_eq, Bool.not_eq_true', decide_eq_true_eq] at h5
  obtain ⟨⟨⟨⟨⟨g1, g2⟩, g3⟩, g4⟩, g5⟩, g6⟩ := h5
  simp [Cond.before, Cond.holds, Cond.value, h1, h2, h3, h4, g1, g2, g3, g4, g5, g6]
def isCode : Jvm.Cond → Bool
  | .code _ _ _ _ => true
  | _ => false
theorem all_split {L : List Jvm.Cond} {P : Jvm.Cond → Bool} (h1 : L.all (fun c => isCode c || P c) = true) (h2 : ∀ c ∈ L.filter isCode, P c = true) : L.all P = true := by
  refine List.all_eq_true.mpr fun c hc => ?_
  have h := List.all_eq_true.mp h1 c hc
  rcases Bool.eq_false_or_eq_true (isCode c) with hi | hi
  · exact h2 c (List.mem_filter.mpr ⟨hc, hi⟩)
  · simpa [hi] using h
set_option maxRecDepth 65536 in
theorem w_c0 : (Jvm.Cond.code x code maxLocals ret).before args0 about1 = true := code_word (m := ⟨1, 1⟩) (meth := k1m1) (c := k1c1) (by decide +kernel) rfl rfl rfl (by decide +kernel)
set_option maxRecDepth 65536 in
theorem w_c1 : (Jvm.Cond.code ({ cls := "com/example/lost_update_guard/lostupdateguard/VersionStep", name := "hasNext", desc := "(J)Z" } : Jvm.MethodName) prog_87_method_2_code (2 : Nat) (Option.some Jvm.ClassFile.FieldType.boolean)).before args0 about1 = true := code_word (m := ⟨2, 1⟩) (meth := k2m1) (c := k2c1) (by decide +kernel) rfl rfl rfl (by decide +kernel)
set_option maxRecDepth 65536 in
theorem w_c2 : (Jvm.Cond.code ({ cls := "com/example/lost_update_guard/lostupdateguard/VersionStep", name := "next", desc := "(J)J" } : Jvm.MethodName) prog_87_method_4_code (2 : Nat) (Option.some Jvm.ClassFile.FieldType.long)).before args0 about1 = true := code_word (m := ⟨2, 2⟩) (meth := k2m2) (c := k2c2) (by decide +kernel) rfl rfl rfl (by decide +kernel)
set_option maxRecDepth 65536 in
theorem w_c3 : (Jvm.Cond.code ({ cls := "java/lang/Math", name := "addExact", desc := "(JJ)J" } : Jvm.MethodName) jdk_29_method_25_code (6 : Nat) (Option.some Jvm.ClassFile.FieldType.long)).before args0 about1 = true := code_word (m := ⟨3, 1⟩) (meth := k3m1) (c := k3c1) (by decide +kernel) rfl rfl rfl (by decide +kernel)
def codes1 : List Jvm.Cond := [Jvm.Cond.code x code maxLocals ret, Jvm.Cond.code ({ cls := "com/example/lost_update_guard/lostupdateguard/VersionStep", name := "hasNext", desc := "(J)Z" } : Jvm.MethodName) prog_87_method_2_code (2 : Nat) (Option.some Jvm.ClassFile.FieldType.boolean), Jvm.Cond.code ({ cls := "com/example/lost_update_guard/lostupdateguard/VersionStep", name := "next", desc := "(J)J" } : Jvm.MethodName) prog_87_method_4_code (2 : Nat) (Option.some Jvm.ClassFile.FieldType.long), Jvm.Cond.code ({ cls := "java/lang/Math", name := "addExact", desc := "(JJ)J" } : Jvm.MethodName) jdk_29_method_25_code (6 : Nat) (Option.some Jvm.ClassFile.FieldType.long)]
set_option maxRecDepth 65536 in
theorem codes_eq : words1.filter isCode = codes1 := rfl
theorem w_codes : ∀ c ∈ words1.filter isCode, c.before args0 about1 = true := by
  rw [codes_eq]
  intro c hc
  simp only [codes1, List.mem_cons, List.not_mem_nil, or_false] at hc
  rcases hc with rfl | rfl | rfl | rfl
  · exact w_c0
  · exact w_c1
  · exact w_c2
  · exact w_c3
set_option maxRecDepth 65536 in
theorem w_t1 : words1.all (fun c => isCode c || c.before args0 about1) = true := by decide +kernel
theorem w_tables : (allAtoms (Jvm.Cond.code x code maxLocals ret :: tables_1)).before args0 about1 = true := by
  rw [allAtoms_all]
  show words1.all (fun c => c.before args0 about1) = true
  refine all_split ?_ w_codes
  rw [w_t1]
set_option maxRecDepth 65536 in
theorem w_case : (Jvm.Cond.and given_1 narrow_1).before args0 about1 = true := by decide +kernel
theorem w_applies : (headSpec (Jvm.Cond.code x code maxLocals ret :: tables_1) room_1).applies x e0.platform about1 = true :=
  (Spec.applies_iff w_frames).mpr ⟨w_running, w_runnable, w_alone, w_named, w_hears, w_ripe, w_room, w_tables⟩
theorem atStart : AtStart classFile x code maxLocals ret World_1 tables_1 room_1 Calls_1 rest_1 Pre_1 launch0 p0 e0 about1 theMethod args0 below0 :=
  ⟨lists_1, trivial, launch0.admits_env _ _ _, launch0.least_env, fairChoices_fair.cas, fairChoices_fair.clock, w_frames, w_args, w_heap, w_applies, trivial, trivial, w_case⟩
end start1
theorem witness_1 : WitnessClaimed_1 := ⟨start1.p0, start1.e0, start1.about1, start1.theMethod, start1.args0, start1.below0, start1.atStart⟩
end Jvm.Pilot.@@N@@
