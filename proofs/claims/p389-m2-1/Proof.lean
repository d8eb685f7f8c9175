import JvmDerived
import JvmDerived.Pilot.@@N@@Statement
import JvmDerived.Pilot.@@N@@Code
set_option linter.unusedVariables false
set_option linter.unusedSimpArgs false
namespace Jvm.Pilot.@@N@@
open Jvm Jvm.ClassFile Sem Op Lib Jvm.Free Jvm.Stand Jvm.LawKit Jvm.RoadKit Bundle Jvm.Pilot.@@N@@.Jvm.D
/-! OWN FRAMEWORK, part 1: a weakest-precondition form of the walk (W), its single steps, returns, calls -/
/-- what is known of the heap: addresses with what their cells are -/
abbrev Asn := List (Addr × (Cell → Prop))
def Sep (Z : State) (n0 : Nat) (h : Heap) (σ : Asn) : Prop := Old Z n0 h ∧ (∀ x ∈ σ, n0 ≤ x.1 ∧ ∃ c : Cell, h[x.1]? = some c ∧ x.2 c) ∧ (σ.map (fun x => x.1)).Nodup
/-- a body: its class, name, bytes, max_locals, return kind -/
abbrev Bdy := String × String × ByteArray × Nat × Option FieldType
def Cx (p : Program) (s : State) (m : MethodId) (meth : Method) (c : Code) (Z : State) (B : Bdy) : Prop :=
  p.tables.exec = Jvm.exec ∧ c.code = B.2.2.1 ∧ c.maxLocals = B.2.2.2.1 ∧ s.vm.findClass B.1 = some m.cls ∧ meth.name = B.2.1 ∧ Z.Warmed39 s.vm ∧ meth.sig.returnType = B.2.2.2.2 ∧ meth.locks = false
/-- from this point (known heap, pc, locals, stack) the body returns, and what it returns meets Q -/
def W (l : Launch) (Z : State) (n0 : Nat) (B : Bdy) (R : Room) (Q : Option Value → Asn → Prop) (cells slots : Nat) (σ : Asn) (pc : Nat) (ls : Array Slot) (st : List Value) : Prop :=
  ∀ (p : Program) (e : Env) (s : State) (m : MethodId) (args : Array Value) (below : List Frame) (meth : Method) (c : Code) (T : State) (locs : List Loc),
    Cx p s m meth c Z B → Stand p l e R s m args below meth c T locs cells slots → Fr n0 locs → Sep Z n0 T.heap σ →
    ∃ (u : State) (o : Outcome), Steps p.tables e below (T.setTop (mkF m pc ls st)) u ∧ u.status = .running ∧ Ended u below o ∧
      ∃ (v : Option Value) (L : List Loc), o = .returned v ∧ ((∃ σ', Q v σ' ∧ Sep Z n0 u.heap σ') ∧ Fr n0 L) ∧ FrameEnd s o u L R.cells R.slots
/-- a contract: called with these arguments on a heap that meets σ, the method returns, and Q holds -/
def Sp (l : Launch) (Z : State) (n0 : Nat) (y : MethodName) (bytes : ByteArray) (maxL : Nat) (ret : Option FieldType) (rm : Room) (as : List Value) (σ : Asn) (Q : Option Value → Asn → Prop) : Prop :=
  ∀ (ws : List Jvm.Cond) (h0 : Heap), Sep Z n0 h0 σ → MetFree l y (head1 (Jvm.Cond.code y bytes maxL ret :: ws) rm) (fun a U => a = as.toArray ∧ Z.Warmed39 U.vm ∧ U.heap = h0) (fun _ _ _ _ _ => True)
    (fun _ U o U' => ∃ v L, o = .returned v ∧ ((∃ σ', Q v σ' ∧ Sep Z n0 U'.heap σ') ∧ Fr n0 L) ∧ FrameEnd U o U' L rm.cells rm.slots)
section Rules
variable {l : Launch} {Z : State} {n0 : Nat} {B : Bdy} {R : Room} {Q : Option Value → Asn → Prop} {cells slots : Nat} {σ : Asn} {pc pc' : Nat} {ls ls' : Array Slot} {st st' rest : List Value} {a0 : Array Value}
theorem Sp.of {y : MethodName} {bytes : ByteArray} {maxL : Nat} {ret : Option FieldType} {as : List Value} (hpn : plainFor y = true) (hent : ∀ m, entryFrame m as.toArray maxL = mkF m 0 ls [])
    (k : W l Z n0 (y.cls, y.name, bytes, maxL, ret) R Q 0 0 σ 0 ls []) : Sp l Z n0 y bytes maxL ret R as σ Q := by
  intro ws h0 hS
  refine MetFree.of_bodySF hpn hisR ?_
  intro p e s m args below meth c s₁ Bd hml0 hP hK
  obtain ⟨rfl, hZ, hh⟩ := hP
  have e0 : s₁.heap = h0 := by rw [← hh, Bd.state]; rfl
  obtain ⟨u, o, h1, h2, h3, h4⟩ := k p e s m _ below meth c s₁ [] ⟨Bd.exec, Bd.bytes, hml0, findClass_of_methodNamed Bd.named, (name_of_methodNamed Bd.named Bd.method).1, hZ, Bd.returns, Bd.notSynchronized⟩ (Stand.of_body Bd) (Fr.nil n0) (by rw [e0]; exact hS)
  exact ⟨u, o, castTop (hent m) h1, h2, h3, h4⟩
theorem W.of (hstep : ∀ (p : Program) (e : Env) (s : State) (m : MethodId) (args : Array Value) (below : List Frame) (meth : Method) (c : Code) (T : State) (locs : List Loc), Cx p s m meth c Z B → Stand p l e R s m args below meth c T locs cells slots → ∀ t, Steps p.tables e below (T.setTop (mkF m pc' ls' st')) t → Steps p.tables e below (T.setTop (mkF m pc ls st)) t)
    (k : W l Z n0 B R Q cells slots σ pc' ls' st') : W l Z n0 B R Q cells slots σ pc ls st := by
  intro p e s m args below meth c T locs C X N S
  obtain ⟨u, o, h1, h2⟩ := k p e s m args below meth c T locs C X N S
  exact ⟨u, o, hstep p e s m args below meth c T locs C X u h1, h2⟩
theorem W.mono {Q' : Option Value → Asn → Prop} (hQ : ∀ v σ', Q v σ' → Q' v σ') (k : W l Z n0 B R Q cells slots σ pc ls st) : W l Z n0 B R Q' cells slots σ pc ls st := by
  intro p e s m args below meth c T locs C X N S
  obtain ⟨u, o, h1, h2, h3, v, L, h4, ⟨⟨σ', h5, h6⟩, h7⟩, h8⟩ := k p e s m args below meth c T locs C X N S
  exact ⟨u, o, h1, h2, h3, v, L, h4, ⟨⟨σ', hQ _ _ h5, h6⟩, h7⟩, h8⟩
theorem Sp.mono {y : MethodName} {bytes : ByteArray} {maxL : Nat} {ret : Option FieldType} {as : List Value} {Q' : Option Value → Asn → Prop} (hQ : ∀ v σ', Q v σ' → Q' v σ') (k : Sp l Z n0 y bytes maxL ret R as σ Q) : Sp l Z n0 y bytes maxL ret R as σ Q' := by
  intro ws h0 hS p e ha hc hk s m args below hf happ hP hK
  obtain ⟨n, o, h1, h2, h3, v, L, h4, ⟨⟨σ', h5, h6⟩, h7⟩, h8⟩ := k ws h0 hS p e ha hc hk s m args below hf happ hP hK
  exact ⟨n, o, h1, h2, h3, v, L, h4, ⟨⟨σ', hQ _ _ h5, h6⟩, h7⟩, h8⟩
/-! constants, loads, stores -/
theorem W.iconst (v : Int32) {i : Int} (hd : decode B.2.2.1 pc = .ok (.iconst i, 1)) (hp : pc + 1 = pc') (hv : Int32.ofInt i = v) (k : W l Z n0 B R Q cells slots σ pc' ls (.int v :: st)) : W l Z n0 B R Q cells slots σ pc ls st := by
  subst hp hv; exact W.of (fun p e s m args below meth c T locs C X t h => XS.iconst X.here C.1 rfl (hb C.2.1 hd) h) k
theorem W.bipush (v : Int32) {i : Int} (hd : decode B.2.2.1 pc = .ok (.bipush i, 2)) (hp : pc + 2 = pc') (hv : (Int8.ofInt i).toInt32 = v) (k : W l Z n0 B R Q cells slots σ pc' ls (.int v :: st)) : W l Z n0 B R Q cells slots σ pc ls st := by
  subst hp hv; exact W.of (fun p e s m args below meth c T locs C X t h => XS.bipush X.here C.1 rfl (hb C.2.1 hd) h) k
theorem W.sipush (v : Int32) {i : Int} (hd : decode B.2.2.1 pc = .ok (.sipush i, 3)) (hp : pc + 3 = pc') (hv : (Int16.ofInt i).toInt32 = v) (k : W l Z n0 B R Q cells slots σ pc' ls (.int v :: st)) : W l Z n0 B R Q cells slots σ pc ls st := by
  subst hp hv; exact W.of (fun p e s m args below meth c T locs C X t h => XS.sipush X.here C.1 rfl (hb C.2.1 hd) h) k
theorem W.lconst (v : Int64) {i : Fin 2} (hd : decode B.2.2.1 pc = .ok (.lconst i, 1)) (hp : pc + 1 = pc') (hv : Int64.ofNat i = v) (k : W l Z n0 B R Q cells slots σ pc' ls (.long v :: st)) : W l Z n0 B R Q cells slots σ pc ls st := by
  subst hp hv; exact W.of (fun p e s m args below meth c T locs C X t h => XT.lconst X.here C.1 rfl (hb C.2.1 hd) h) k
theorem W.aconstNull (hd : decode B.2.2.1 pc = .ok (.aconst_null, 1)) (hp : pc + 1 = pc') (k : W l Z n0 B R Q cells slots σ pc' ls (.null :: st)) : W l Z n0 B R Q cells slots σ pc ls st := by
  subst hp; exact W.of (fun p e s m args below meth c T locs C X t h => XS.aconstNull X.here C.1 rfl (hb C.2.1 hd) h) k
theorem W.ldcI {i : Nat} {v : Int32} (hd : decode B.2.2.1 pc = .ok (.ldc i, 2)) (w : (Jvm.Cond.constant B.1 i v).before a0 Z = true) (hp : pc + 2 = pc') (k : W l Z n0 B R Q cells slots σ pc' ls (.int v :: st)) : W l Z n0 B R Q cells slots σ pc ls st := by
  subst hp; exact W.of (fun p e s m args below meth c T locs C X t h => X.ldcI C.1 C.2.2.2.1 (mvT C.2.2.2.2.2.1 w) rfl (hb C.2.1 hd) h) k
theorem W.ldc2J {i : Nat} {v : Int64} (hd : decode B.2.2.1 pc = .ok (.ldc2_w i, 3)) (w : (Jvm.Cond.constantLong B.1 i v).before a0 Z = true) (hp : pc + 3 = pc') (k : W l Z n0 B R Q cells slots σ pc' ls (.long v :: st)) : W l Z n0 B R Q cells slots σ pc ls st := by
  subst hp; exact W.of (fun p e s m args below meth c T locs C X t h => X.ldc2J C.1 C.2.2.2.1 (mvT C.2.2.2.2.2.1 w) rfl (hb C.2.1 hd) h) k
theorem W.iloadN {i : Fin 4} {v : Int32} (hd : decode B.2.2.1 pc = .ok (.iload_n i, 1)) (hp : pc + 1 = pc') (hl : ls[i.val]? = some (.val (.int v))) (k : W l Z n0 B R Q cells slots σ pc' ls (.int v :: st)) : W l Z n0 B R Q cells slots σ pc ls st := by
  subst hp; exact W.of (fun p e s m args below meth c T locs C X t h => XS.iloadN X.here C.1 rfl (hb C.2.1 hd) hl h) k
theorem W.iload {i : Nat} {v : Int32} (hd : decode B.2.2.1 pc = .ok (.iload i, 2)) (hp : pc + 2 = pc') (hl : ls[i]? = some (.val (.int v))) (k : W l Z n0 B R Q cells slots σ pc' ls (.int v :: st)) : W l Z n0 B R Q cells slots σ pc ls st := by
  subst hp; exact W.of (fun p e s m args below meth c T locs C X t h => XS.iload X.here C.1 rfl (hb C.2.1 hd) hl h) k
theorem W.lloadN {i : Fin 4} {v : Int64} (hd : decode B.2.2.1 pc = .ok (.lload_n i, 1)) (hp : pc + 1 = pc') (hl : ls[i.val]? = some (.val (.long v))) (k : W l Z n0 B R Q cells slots σ pc' ls (.long v :: st)) : W l Z n0 B R Q cells slots σ pc ls st := by
  subst hp; exact W.of (fun p e s m args below meth c T locs C X t h => XT.lloadN X.here C.1 rfl (hb C.2.1 hd) hl h) k
theorem W.lload {i : Nat} {v : Int64} (hd : decode B.2.2.1 pc = .ok (.lload i, 2)) (hp : pc + 2 = pc') (hl : ls[i]? = some (.val (.long v))) (k : W l Z n0 B R Q cells slots σ pc' ls (.long v :: st)) : W l Z n0 B R Q cells slots σ pc ls st := by
  subst hp; exact W.of (fun p e s m args below meth c T locs C X t h => XT.lload X.here C.1 rfl (hb C.2.1 hd) hl h) k
theorem W.aloadN {i : Fin 4} {v : Value} (hd : decode B.2.2.1 pc = .ok (.aload_n i, 1)) (hp : pc + 1 = pc') (hl : ls[i.val]? = some (.val v)) (hv : v.isRef = true) (k : W l Z n0 B R Q cells slots σ pc' ls (v :: st)) : W l Z n0 B R Q cells slots σ pc ls st := by
  subst hp; exact W.of (fun p e s m args below meth c T locs C X t h => XS.aloadN X.here C.1 rfl (hb C.2.1 hd) hl hv h) k
theorem W.aload {i : Nat} {v : Value} (hd : decode B.2.2.1 pc = .ok (.aload i, 2)) (hp : pc + 2 = pc') (hl : ls[i]? = some (.val v)) (hv : v.isRef = true) (k : W l Z n0 B R Q cells slots σ pc' ls (v :: st)) : W l Z n0 B R Q cells slots σ pc ls st := by
  subst hp; exact W.of (fun p e s m args below meth c T locs C X t h => XS.aload X.here C.1 rfl (hb C.2.1 hd) hl hv h) k
theorem W.istoreN (ls' : Array Slot) {i : Fin 4} {v : Int32} (hd : decode B.2.2.1 pc = .ok (.istore_n i, 1)) (hp : pc + 1 = pc') (hl : storeLocals ls i.val (.int v) = some ls') (k : W l Z n0 B R Q cells slots σ pc' ls' st) : W l Z n0 B R Q cells slots σ pc ls (.int v :: st) := by
  subst hp; exact W.of (fun p e s m args below meth c T locs C X t h => XS.istoreN X.here C.1 rfl (hb C.2.1 hd) rfl hl h) k
theorem W.istore (ls' : Array Slot) {i : Nat} {v : Int32} (hd : decode B.2.2.1 pc = .ok (.istore i, 2)) (hp : pc + 2 = pc') (hl : storeLocals ls i (.int v) = some ls') (k : W l Z n0 B R Q cells slots σ pc' ls' st) : W l Z n0 B R Q cells slots σ pc ls (.int v :: st) := by
  subst hp; exact W.of (fun p e s m args below meth c T locs C X t h => XS.istore X.here C.1 rfl (hb C.2.1 hd) rfl hl h) k
theorem W.lstoreN (ls' : Array Slot) {i : Fin 4} {v : Int64} (hd : decode B.2.2.1 pc = .ok (.lstore_n i, 1)) (hp : pc + 1 = pc') (hl : storeLocals ls i.val (.long v) = some ls') (k : W l Z n0 B R Q cells slots σ pc' ls' st) : W l Z n0 B R Q cells slots σ pc ls (.long v :: st) := by
  subst hp; exact W.of (fun p e s m args below meth c T locs C X t h => XT.lstoreN X.here C.1 rfl (hb C.2.1 hd) rfl hl h) k
theorem W.lstore (ls' : Array Slot) {i : Nat} {v : Int64} (hd : decode B.2.2.1 pc = .ok (.lstore i, 2)) (hp : pc + 2 = pc') (hl : storeLocals ls i (.long v) = some ls') (k : W l Z n0 B R Q cells slots σ pc' ls' st) : W l Z n0 B R Q cells slots σ pc ls (.long v :: st) := by
  subst hp; exact W.of (fun p e s m args below meth c T locs C X t h => XT.lstore X.here C.1 rfl (hb C.2.1 hd) rfl hl h) k
theorem W.astoreN (ls' : Array Slot) {i : Fin 4} {v : Value} (hd : decode B.2.2.1 pc = .ok (.astore_n i, 1)) (hp : pc + 1 = pc') (hv : v.isRef = true) (hl : storeLocals ls i.val v = some ls') (k : W l Z n0 B R Q cells slots σ pc' ls' st) : W l Z n0 B R Q cells slots σ pc ls (v :: st) := by
  subst hp; exact W.of (fun p e s m args below meth c T locs C X t h => XS.astoreN X.here C.1 rfl (hb C.2.1 hd) rfl hv hl h) k
theorem W.astore (ls' : Array Slot) {i : Nat} {v : Value} (hd : decode B.2.2.1 pc = .ok (.astore i, 2)) (hp : pc + 2 = pc') (hv : v.isRef = true) (hl : storeLocals ls i v = some ls') (k : W l Z n0 B R Q cells slots σ pc' ls' st) : W l Z n0 B R Q cells slots σ pc ls (v :: st) := by
  subst hp; exact W.of (fun p e s m args below meth c T locs C X t h => XS.astore X.here C.1 rfl (hb C.2.1 hd) rfl hv hl h) k
theorem W.iinc (ls' : Array Slot) {i : Nat} {cst : Int} {x : Int32} (v y : Int32) (hd : decode B.2.2.1 pc = .ok (.iinc i cst, 3)) (hp : pc + 3 = pc') (hv : Int32.ofInt cst = v) (hx : ls[i]? = some (.val (.int x))) (hy : x + v = y) (hl : storeLocals ls i (.int y) = some ls') (k : W l Z n0 B R Q cells slots σ pc' ls' st) : W l Z n0 B R Q cells slots σ pc ls st := by
  subst hp hv hy; exact W.of (fun p e s m args below meth c T locs C X t h => XS.iinc X.here C.1 rfl (hb C.2.1 hd) hx hl h) k
theorem W.topI {x : Int32} (y : Int32) (h : x = y) (k : W l Z n0 B R Q cells slots σ pc ls (.int y :: st)) : W l Z n0 B R Q cells slots σ pc ls (.int x :: st) := h ▸ k
/-! arithmetic -/
theorem W.iadd {x : Int32} {y : Int32} (hd : decode B.2.2.1 pc = .ok (.iadd, 1)) (hp : pc + 1 = pc') (k : W l Z n0 B R Q cells slots σ pc' ls (.int (x + y) :: st)) : W l Z n0 B R Q cells slots σ pc ls (.int y :: .int x :: st) := by
  subst hp; exact W.of (fun p e s m args below meth c T locs C X t h => XS.iadd X.here C.1 rfl (hb C.2.1 hd) rfl h) k
theorem W.isub {x : Int32} {y : Int32} (hd : decode B.2.2.1 pc = .ok (.isub, 1)) (hp : pc + 1 = pc') (k : W l Z n0 B R Q cells slots σ pc' ls (.int (x - y) :: st)) : W l Z n0 B R Q cells slots σ pc ls (.int y :: .int x :: st) := by
  subst hp; exact W.of (fun p e s m args below meth c T locs C X t h => XS.isub X.here C.1 rfl (hb C.2.1 hd) rfl h) k
theorem W.imul {x : Int32} {y : Int32} (hd : decode B.2.2.1 pc = .ok (.imul, 1)) (hp : pc + 1 = pc') (k : W l Z n0 B R Q cells slots σ pc' ls (.int (x * y) :: st)) : W l Z n0 B R Q cells slots σ pc ls (.int y :: .int x :: st) := by
  subst hp; exact W.of (fun p e s m args below meth c T locs C X t h => XS.imul X.here C.1 rfl (hb C.2.1 hd) rfl h) k
theorem W.iand {x : Int32} {y : Int32} (hd : decode B.2.2.1 pc = .ok (.iand, 1)) (hp : pc + 1 = pc') (k : W l Z n0 B R Q cells slots σ pc' ls (.int (x &&& y) :: st)) : W l Z n0 B R Q cells slots σ pc ls (.int y :: .int x :: st) := by
  subst hp; exact W.of (fun p e s m args below meth c T locs C X t h => XS.iand X.here C.1 rfl (hb C.2.1 hd) rfl h) k
theorem W.ior {x : Int32} {y : Int32} (hd : decode B.2.2.1 pc = .ok (.ior, 1)) (hp : pc + 1 = pc') (k : W l Z n0 B R Q cells slots σ pc' ls (.int (x ||| y) :: st)) : W l Z n0 B R Q cells slots σ pc ls (.int y :: .int x :: st) := by
  subst hp; exact W.of (fun p e s m args below meth c T locs C X t h => XT.ior X.here C.1 rfl (hb C.2.1 hd) rfl h) k
theorem W.ixor {x : Int32} {y : Int32} (hd : decode B.2.2.1 pc = .ok (.ixor, 1)) (hp : pc + 1 = pc') (k : W l Z n0 B R Q cells slots σ pc' ls (.int (x ^^^ y) :: st)) : W l Z n0 B R Q cells slots σ pc ls (.int y :: .int x :: st) := by
  subst hp; exact W.of (fun p e s m args below meth c T locs C X t h => XT.ixor X.here C.1 rfl (hb C.2.1 hd) rfl h) k
theorem W.ishl {x : Int32} {y : Int32} (hd : decode B.2.2.1 pc = .ok (.ishl, 1)) (hp : pc + 1 = pc') (k : W l Z n0 B R Q cells slots σ pc' ls (.int (x <<< (y &&& 31)) :: st)) : W l Z n0 B R Q cells slots σ pc ls (.int y :: .int x :: st) := by
  subst hp; exact W.of (fun p e s m args below meth c T locs C X t h => XT.ishl X.here C.1 rfl (hb C.2.1 hd) rfl h) k
theorem W.ishr {x : Int32} {y : Int32} (hd : decode B.2.2.1 pc = .ok (.ishr, 1)) (hp : pc + 1 = pc') (k : W l Z n0 B R Q cells slots σ pc' ls (.int (x >>> (y &&& 31)) :: st)) : W l Z n0 B R Q cells slots σ pc ls (.int y :: .int x :: st) := by
  subst hp; exact W.of (fun p e s m args below meth c T locs C X t h => XT.ishr X.here C.1 rfl (hb C.2.1 hd) rfl h) k
theorem W.iushr {x : Int32} {y : Int32} (hd : decode B.2.2.1 pc = .ok (.iushr, 1)) (hp : pc + 1 = pc') (k : W l Z n0 B R Q cells slots σ pc' ls (.int (XT.ushr x y) :: st)) : W l Z n0 B R Q cells slots σ pc ls (.int y :: .int x :: st) := by
  subst hp; exact W.of (fun p e s m args below meth c T locs C X t h => XT.iushr X.here C.1 rfl (hb C.2.1 hd) rfl h) k
theorem W.ladd {x : Int64} {y : Int64} (hd : decode B.2.2.1 pc = .ok (.ladd, 1)) (hp : pc + 1 = pc') (k : W l Z n0 B R Q cells slots σ pc' ls (.long (x + y) :: st)) : W l Z n0 B R Q cells slots σ pc ls (.long y :: .long x :: st) := by
  subst hp; exact W.of (fun p e s m args below meth c T locs C X t h => XT.ladd X.here C.1 rfl (hb C.2.1 hd) rfl h) k
theorem W.lsub {x : Int64} {y : Int64} (hd : decode B.2.2.1 pc = .ok (.lsub, 1)) (hp : pc + 1 = pc') (k : W l Z n0 B R Q cells slots σ pc' ls (.long (x - y) :: st)) : W l Z n0 B R Q cells slots σ pc ls (.long y :: .long x :: st) := by
  subst hp; exact W.of (fun p e s m args below meth c T locs C X t h => XT.lsub X.here C.1 rfl (hb C.2.1 hd) rfl h) k
theorem W.lmul {x : Int64} {y : Int64} (hd : decode B.2.2.1 pc = .ok (.lmul, 1)) (hp : pc + 1 = pc') (k : W l Z n0 B R Q cells slots σ pc' ls (.long (x * y) :: st)) : W l Z n0 B R Q cells slots σ pc ls (.long y :: .long x :: st) := by
  subst hp; exact W.of (fun p e s m args below meth c T locs C X t h => XT.lmul X.here C.1 rfl (hb C.2.1 hd) rfl h) k
theorem W.land {x : Int64} {y : Int64} (hd : decode B.2.2.1 pc = .ok (.land, 1)) (hp : pc + 1 = pc') (k : W l Z n0 B R Q cells slots σ pc' ls (.long (x &&& y) :: st)) : W l Z n0 B R Q cells slots σ pc ls (.long y :: .long x :: st) := by
  subst hp; exact W.of (fun p e s m args below meth c T locs C X t h => XT.land X.here C.1 rfl (hb C.2.1 hd) rfl h) k
theorem W.lor {x : Int64} {y : Int64} (hd : decode B.2.2.1 pc = .ok (.lor, 1)) (hp : pc + 1 = pc') (k : W l Z n0 B R Q cells slots σ pc' ls (.long (x ||| y) :: st)) : W l Z n0 B R Q cells slots σ pc ls (.long y :: .long x :: st) := by
  subst hp; exact W.of (fun p e s m args below meth c T locs C X t h => XT.lor X.here C.1 rfl (hb C.2.1 hd) rfl h) k
theorem W.lxor {x : Int64} {y : Int64} (hd : decode B.2.2.1 pc = .ok (.lxor, 1)) (hp : pc + 1 = pc') (k : W l Z n0 B R Q cells slots σ pc' ls (.long (x ^^^ y) :: st)) : W l Z n0 B R Q cells slots σ pc ls (.long y :: .long x :: st) := by
  subst hp; exact W.of (fun p e s m args below meth c T locs C X t h => XT.lxor X.here C.1 rfl (hb C.2.1 hd) rfl h) k
theorem W.lushr {x : Int64} {y : Int32} (hd : decode B.2.2.1 pc = .ok (.lushr, 1)) (hp : pc + 1 = pc') (k : W l Z n0 B R Q cells slots σ pc' ls (.long (XT.ushrL x y) :: st)) : W l Z n0 B R Q cells slots σ pc ls (.int y :: .long x :: st) := by
  subst hp; exact W.of (fun p e s m args below meth c T locs C X t h => XT.lushr X.here C.1 rfl (hb C.2.1 hd) rfl h) k
theorem W.lshl {x : Int64} {y : Int32} (hd : decode B.2.2.1 pc = .ok (.lshl, 1)) (hp : pc + 1 = pc') (k : W l Z n0 B R Q cells slots σ pc' ls (.long (x <<< (y.toInt64 &&& 63)) :: st)) : W l Z n0 B R Q cells slots σ pc ls (.int y :: .long x :: st) := by
  subst hp; exact W.of (fun p e s m args below meth c T locs C X t h => XT.lshl X.here C.1 rfl (hb C.2.1 hd) rfl h) k
theorem W.lcmp {x : Int64} {y : Int64} (hd : decode B.2.2.1 pc = .ok (.lcmp, 1)) (hp : pc + 1 = pc') (k : W l Z n0 B R Q cells slots σ pc' ls (.int (XT.cmpL x y) :: st)) : W l Z n0 B R Q cells slots σ pc ls (.long y :: .long x :: st) := by
  subst hp; exact W.of (fun p e s m args below meth c T locs C X t h => XT.lcmp X.here C.1 rfl (hb C.2.1 hd) rfl h) k
theorem W.i2l {x : Int32} (hd : decode B.2.2.1 pc = .ok (.i2l, 1)) (hp : pc + 1 = pc') (k : W l Z n0 B R Q cells slots σ pc' ls (.long (x.toInt64) :: st)) : W l Z n0 B R Q cells slots σ pc ls (.int x :: st) := by
  subst hp; exact W.of (fun p e s m args below meth c T locs C X t h => XT.i2l X.here C.1 rfl (hb C.2.1 hd) rfl h) k
theorem W.l2i {x : Int64} (hd : decode B.2.2.1 pc = .ok (.l2i, 1)) (hp : pc + 1 = pc') (k : W l Z n0 B R Q cells slots σ pc' ls (.int (x.toInt32) :: st)) : W l Z n0 B R Q cells slots σ pc ls (.long x :: st) := by
  subst hp; exact W.of (fun p e s m args below meth c T locs C X t h => XT.l2i X.here C.1 rfl (hb C.2.1 hd) rfl h) k
theorem W.i2b {x : Int32} (hd : decode B.2.2.1 pc = .ok (.i2b, 1)) (hp : pc + 1 = pc') (k : W l Z n0 B R Q cells slots σ pc' ls (.int (x.toInt8.toInt32) :: st)) : W l Z n0 B R Q cells slots σ pc ls (.int x :: st) := by
  subst hp; exact W.of (fun p e s m args below meth c T locs C X t h => XT.i2b X.here C.1 rfl (hb C.2.1 hd) rfl h) k
theorem W.i2c {x : Int32} (hd : decode B.2.2.1 pc = .ok (.i2c, 1)) (hp : pc + 1 = pc') (k : W l Z n0 B R Q cells slots σ pc' ls (.int (x.toUInt32.toUInt16.toUInt32.toInt32) :: st)) : W l Z n0 B R Q cells slots σ pc ls (.int x :: st) := by
  subst hp; exact W.of (fun p e s m args below meth c T locs C X t h => XT.i2c X.here C.1 rfl (hb C.2.1 hd) rfl h) k
theorem W.idiv {x y : Int32} (hd : decode B.2.2.1 pc = .ok (.idiv, 1)) (hp : pc + 1 = pc') (hy : y ≠ 0) (k : W l Z n0 B R Q cells slots σ pc' ls (.int (x / y) :: st)) : W l Z n0 B R Q cells slots σ pc ls (.int y :: .int x :: st) := by
  subst hp; exact W.of (fun p e s m args below meth c T locs C X t h => XS.idiv X.here C.1 rfl (hb C.2.1 hd) rfl hy h) k
theorem W.irem {x y : Int32} (hd : decode B.2.2.1 pc = .ok (.irem, 1)) (hp : pc + 1 = pc') (hy : y ≠ 0) (k : W l Z n0 B R Q cells slots σ pc' ls (.int (x % y) :: st)) : W l Z n0 B R Q cells slots σ pc ls (.int y :: .int x :: st) := by
  subst hp; exact W.of (fun p e s m args below meth c T locs C X t h => iremM X C.1 rfl (hb C.2.1 hd) rfl hy h) k
theorem W.dup {x : Value} (hd : decode B.2.2.1 pc = .ok (.dup, 1)) (hp : pc + 1 = pc') (hc : x.category = 1) (k : W l Z n0 B R Q cells slots σ pc' ls (x :: x :: st)) : W l Z n0 B R Q cells slots σ pc ls (x :: st) := by
  subst hp; exact W.of (fun p e s m args below meth c T locs C X t h => XS.dup X.here C.1 rfl (hb C.2.1 hd) rfl hc h) k
theorem W.pop {x : Value} (hd : decode B.2.2.1 pc = .ok (.pop, 1)) (hp : pc + 1 = pc') (hc : x.category = 1) (k : W l Z n0 B R Q cells slots σ pc' ls st) : W l Z n0 B R Q cells slots σ pc ls (x :: st) := by
  subst hp; exact W.of (fun p e s m args below meth c T locs C X t h => XT.pop X.here C.1 rfl (hb C.2.1 hd) rfl hc h) k
theorem W.dupX1 {x y : Value} (hd : decode B.2.2.1 pc = .ok (.dup_x1, 1)) (hp : pc + 1 = pc') (hc : x.category = 1) (hc' : y.category = 1) (k : W l Z n0 B R Q cells slots σ pc' ls (x :: y :: x :: st)) : W l Z n0 B R Q cells slots σ pc ls (x :: y :: st) := by
  subst hp; exact W.of (fun p e s m args below meth c T locs C X t h => XT.dupX1 X.here C.1 rfl (hb C.2.1 hd) rfl hc hc' h) k
/-! branches -/
theorem W.goto {o : Int} (hd : decode B.2.2.1 pc = .ok (.goto o, 3)) (ho : 0 ≤ (pc : Int) + o) (hp : ((pc : Int) + o).toNat = pc') (k : W l Z n0 B R Q cells slots σ pc' ls st) : W l Z n0 B R Q cells slots σ pc ls st :=
  W.of (fun p e s m args below meth c T locs C X t h => XS.goto X.here C.1 rfl rfl (hb C.2.1 hd) ho hp h) k
theorem W.ifY {cd : ClassFile.Cond} {x : Int32} {o : Int} (hd : decode B.2.2.1 pc = .ok (.ifCond cd o, 3)) (hc : ifCond.holds cd x = true) (ho : 0 ≤ (pc : Int) + o) (hp : ((pc : Int) + o).toNat = pc') (k : W l Z n0 B R Q cells slots σ pc' ls st) : W l Z n0 B R Q cells slots σ pc ls (.int x :: st) :=
  W.of (fun p e s m args below meth c T locs C X t h => XS.ifYes X.here C.1 rfl rfl (hb C.2.1 hd) rfl hc ho hp h) k
theorem W.ifN {cd : ClassFile.Cond} {x : Int32} {o : Int} (hd : decode B.2.2.1 pc = .ok (.ifCond cd o, 3)) (hc : ifCond.holds cd x = false) (hp : pc + 3 = pc') (k : W l Z n0 B R Q cells slots σ pc' ls st) : W l Z n0 B R Q cells slots σ pc ls (.int x :: st) := by
  subst hp; exact W.of (fun p e s m args below meth c T locs C X t h => XS.ifNo X.here C.1 rfl (hb C.2.1 hd) rfl hc h) k
theorem W.icmpY {cd : ClassFile.Cond} {x y : Int32} {o : Int} (hd : decode B.2.2.1 pc = .ok (.if_icmp cd o, 3)) (hc : if_icmp.holds cd x y = true) (ho : 0 ≤ (pc : Int) + o) (hp : ((pc : Int) + o).toNat = pc') (k : W l Z n0 B R Q cells slots σ pc' ls st) : W l Z n0 B R Q cells slots σ pc ls (.int y :: .int x :: st) :=
  W.of (fun p e s m args below meth c T locs C X t h => XS.icmpYes X.here C.1 rfl rfl (hb C.2.1 hd) rfl hc ho hp h) k
theorem W.icmpN {cd : ClassFile.Cond} {x y : Int32} {o : Int} (hd : decode B.2.2.1 pc = .ok (.if_icmp cd o, 3)) (hc : if_icmp.holds cd x y = false) (hp : pc + 3 = pc') (k : W l Z n0 B R Q cells slots σ pc' ls st) : W l Z n0 B R Q cells slots σ pc ls (.int y :: .int x :: st) := by
  subst hp; exact W.of (fun p e s m args below meth c T locs C X t h => XS.icmpNo X.here C.1 rfl (hb C.2.1 hd) rfl hc h) k
theorem W.acmpY {cd : ClassFile.ACond} {x y : Value} {o : Int} (hd : decode B.2.2.1 pc = .ok (.if_acmp cd o, 3)) (hx : x.isRef = true) (hy : y.isRef = true) (hc : XT.acmp cd x y = true) (ho : 0 ≤ (pc : Int) + o) (hp : ((pc : Int) + o).toNat = pc') (k : W l Z n0 B R Q cells slots σ pc' ls st) : W l Z n0 B R Q cells slots σ pc ls (y :: x :: st) :=
  W.of (fun p e s m args below meth c T locs C X t h => XT.acmpYes X.here C.1 rfl rfl (hb C.2.1 hd) rfl hx hy hc ho hp h) k
theorem W.acmpN {cd : ClassFile.ACond} {x y : Value} {o : Int} (hd : decode B.2.2.1 pc = .ok (.if_acmp cd o, 3)) (hx : x.isRef = true) (hy : y.isRef = true) (hc : XT.acmp cd x y = false) (hp : pc + 3 = pc') (k : W l Z n0 B R Q cells slots σ pc' ls st) : W l Z n0 B R Q cells slots σ pc ls (y :: x :: st) := by
  subst hp; exact W.of (fun p e s m args below meth c T locs C X t h => XT.acmpNo X.here C.1 rfl (hb C.2.1 hd) rfl hx hy hc h) k
theorem W.nullY {o : Int} (hd : decode B.2.2.1 pc = .ok (.ifnull o, 3)) (ho : 0 ≤ (pc : Int) + o) (hp : ((pc : Int) + o).toNat = pc') (k : W l Z n0 B R Q cells slots σ pc' ls st) : W l Z n0 B R Q cells slots σ pc ls (.null :: st) :=
  W.of (fun p e s m args below meth c T locs C X t h => XS.ifnullYes X.here C.1 rfl rfl (hb C.2.1 hd) rfl ho hp h) k
theorem W.nullN {a : Addr} {o : Int} (hd : decode B.2.2.1 pc = .ok (.ifnull o, 3)) (hp : pc + 3 = pc') (k : W l Z n0 B R Q cells slots σ pc' ls st) : W l Z n0 B R Q cells slots σ pc ls (.ref a :: st) := by
  subst hp; exact W.of (fun p e s m args below meth c T locs C X t h => XS.ifnullNo X.here C.1 rfl (hb C.2.1 hd) rfl h) k
theorem W.nonnullY {a : Addr} {o : Int} (hd : decode B.2.2.1 pc = .ok (.ifnonnull o, 3)) (ho : 0 ≤ (pc : Int) + o) (hp : ((pc : Int) + o).toNat = pc') (k : W l Z n0 B R Q cells slots σ pc' ls st) : W l Z n0 B R Q cells slots σ pc ls (.ref a :: st) :=
  W.of (fun p e s m args below meth c T locs C X t h => XT.ifnonnullYes X.here C.1 rfl rfl (hb C.2.1 hd) rfl ho hp h) k
theorem W.nonnullN {o : Int} (hd : decode B.2.2.1 pc = .ok (.ifnonnull o, 3)) (hp : pc + 3 = pc') (k : W l Z n0 B R Q cells slots σ pc' ls st) : W l Z n0 B R Q cells slots σ pc ls (.null :: st) := by
  subst hp; exact W.of (fun p e s m args below meth c T locs C X t h => XT.ifnonnullNo X.here C.1 rfl (hb C.2.1 hd) rfl h) k
/-! returns -/
theorem W.fin {v : Option Value} (hv : B.2.2.2.2 = none → v = none) (hc : cells ≤ R.cells) (hs : slots ≤ R.slots) (hQ : Q v σ)
    (hstep : ∀ (p : Program) (e : Env) (s : State) (m : MethodId) (args : Array Value) (below : List Frame) (meth : Method) (c : Code) (T : State) (locs : List Loc), Cx p s m meth c Z B → Stand p l e R s m args below meth c T locs cells slots → ∀ fs, (∀ (f : JFrame) (acts : List Action), f.method = m → f.locked = none → f.entered = [] → (doReturn e (T.setTop f) acts v).1 = T.setFrames fs) → Steps p.tables e below (T.setTop (mkF m pc ls st)) (T.setFrames fs)) :
    W l Z n0 B R Q cells slots σ pc ls st := by
  intro p e s m args below meth c T locs C X N S
  obtain ⟨fs, hr, hrun, hended, hW, hsame⟩ := X.leave (v := v) (fun h => hv (C.2.2.2.2.2.2.1.symm.trans h)) C.2.2.2.2.2.2.2
  exact ⟨_, _, hstep p e s m args below meth c T locs C X fs hr, hrun, hended, v, locs, rfl, ⟨⟨σ, hQ, S⟩, N⟩, ⟨_, rfl⟩, hW, hsame.mono hc hs⟩
theorem W.retN {t : FieldType} {z : Int32} (z' : Int32) (hd : decode B.2.2.1 pc = .ok (.ireturn, 1)) (hr : B.2.2.2.2 = some t) (ht : t = .boolean ∨ t = .byte ∨ t = .char ∨ t = .short) (hz : nar t z = z') (hc : cells ≤ R.cells) (hs : slots ≤ R.slots) (hQ : Q (some (.int z')) σ) : W l Z n0 B R Q cells slots σ pc ls (.int z :: st) := by
  subst hz; exact W.fin (fun h => by rw [hr] at h; cases h) hc hs hQ (fun p e s m args below meth c T locs C X fs h => RoadKit.retN X C.1 (C.2.2.2.2.2.2.1.trans hr) ht (hb C.2.1 hd) h)
theorem W.retI {z : Int32} (hd : decode B.2.2.1 pc = .ok (.ireturn, 1)) (hr : B.2.2.2.2 = some .int) (hc : cells ≤ R.cells) (hs : slots ≤ R.slots) (hQ : Q (some (.int z)) σ) : W l Z n0 B R Q cells slots σ pc ls (.int z :: st) :=
  W.fin (fun h => by rw [hr] at h; cases h) hc hs hQ (fun p e s m args below meth c T locs C X fs h => retOut X C.1 (t := .int) (C.2.2.2.2.2.2.1.trans hr) rfl (Or.inl ⟨rfl, Or.inl rfl, _, rfl⟩) (hb C.2.1 hd) h)
theorem W.retJ {z : Int64} (hd : decode B.2.2.1 pc = .ok (.lreturn, 1)) (hr : B.2.2.2.2 = some .long) (hc : cells ≤ R.cells) (hs : slots ≤ R.slots) (hQ : Q (some (.long z)) σ) : W l Z n0 B R Q cells slots σ pc ls (.long z :: st) :=
  W.fin (fun h => by rw [hr] at h; cases h) hc hs hQ (fun p e s m args below meth c T locs C X fs h => retOut X C.1 (t := .long) (C.2.2.2.2.2.2.1.trans hr) rfl (Or.inr (Or.inl ⟨rfl, rfl, _, rfl⟩)) (hb C.2.1 hd) h)
theorem W.retA {t : FieldType} {v : Value} (hd : decode B.2.2.1 pc = .ok (.areturn, 1)) (hr : B.2.2.2.2 = some t) (ht : t.isReference = true) (hn : narrow t v = v) (hv : v.isRef = true) (hc : cells ≤ R.cells) (hs : slots ≤ R.slots) (hQ : Q (some v) σ) : W l Z n0 B R Q cells slots σ pc ls (v :: st) :=
  W.fin (fun h => by rw [hr] at h; cases h) hc hs hQ (fun p e s m args below meth c T locs C X fs h => retOut X C.1 (t := t) (C.2.2.2.2.2.2.1.trans hr) hn (Or.inr (Or.inr (Or.inr (Or.inr ⟨rfl, ht, hv⟩)))) (hb C.2.1 hd) h)
theorem W.retV (hd : decode B.2.2.1 pc = .ok (.return_, 1)) (hr : B.2.2.2.2 = none) (hc : cells ≤ R.cells) (hs : slots ≤ R.slots) (hQ : Q none σ) : W l Z n0 B R Q cells slots σ pc ls [] :=
  W.fin (fun _ => rfl) hc hs hQ (fun p e s m args below meth c T locs C X fs h => X.returnOut C.1 (C.2.2.2.2.2.2.1.trans hr) (hb C.2.1 hd) h)
/-! calls -/
theorem W.back {y : MethodName} {bytes : ByteArray} {maxL : Nat} {ret : Option FieldType} {rm : Room} {as : List Value} {Qc : Option Value → Asn → Prop} {len Wd : Nat} (hS : Sp l Z n0 y bytes maxL ret rm as σ Qc) {h : Heap} (hsep : Sep Z n0 h σ)
    {p : Program} {e : Env} {below : List Frame} {s : State} {args : Array Value} (hZ : Z.Warmed39 s.vm) (wc : (Jvm.Cond.code y bytes maxL ret).before a0 Z = true) (wz : (Jvm.Cond.initialized y.cls).before a0 Z = true) (hf : rm.frames + 1 ≤ R.frames) (hl : Wd + (maxL + 11) + rm.locals ≤ R.locals) :
    Back l R p e below s args y len Wd (fun A a => a = as.toArray ∧ A.U.heap = h ∧ A.cells + rm.cells ≤ R.cells ∧ A.slots + rm.slots ≤ R.slots)
      (fun A _ v B => ∃ L, ((∃ σ', Qc v σ' ∧ Sep Z n0 B.U.heap σ') ∧ Fr n0 L) ∧ B.locs = A.locs ++ L ∧ B.cells = A.cells + rm.cells ∧ B.slots = A.slots + rm.slots) :=
  backOf (Q := fun v h' L => (∃ σ', Qc v σ' ∧ Sep Z n0 h' σ') ∧ Fr n0 L) (hS [] h hsep) hZ wc wz hf hl
theorem W.callS {y : MethodName} {bytes : ByteArray} {maxL : Nat} {ret : Option FieldType} {rm : Room} {as : List Value} {Qc : Option Value → Asn → Prop} {i : Nat} {sg : MethodDescriptor} (hS : Sp l Z n0 y bytes maxL ret rm as σ Qc)
    (hd : decode B.2.2.1 pc = .ok (.invokestatic i, 3)) (w1 : (Jvm.Cond.methodLink B.1 i y).before a0 Z = true) (w2 : (Jvm.Cond.static y).before a0 Z = true) (wz : (Jvm.Cond.initialized y.cls).before a0 Z = true) (wc : (Jvm.Cond.code y bytes maxL ret).before a0 Z = true)
    (hy : y.cls ≠ "java/lang/invoke/MethodHandle" ∧ y.cls ≠ "java/lang/invoke/VarHandle") (hsg : parseMethodDescriptor y.desc = some sg) (hln : as.length = sg.parameters.length) (hst : st = as.reverse ++ rest)
    (hf : rm.frames + 1 ≤ R.frames) (hl : (rest.map fun v => v.category).sum + (maxL + 11) + rm.locals ≤ R.locals) (hc : cells + rm.cells ≤ R.cells) (hs : slots + rm.slots ≤ R.slots) (hsz : ls.size = B.2.2.2.1) (hp : pc + 3 = pc')
    (k : ∀ v σ', Qc v σ' → W l Z n0 B R Q (cells + rm.cells) (slots + rm.slots) σ' pc' ls (v.toList ++ rest)) : W l Z n0 B R Q cells slots σ pc ls st := by
  subst hp
  intro p e s m args below meth c T locs C X N S
  obtain ⟨hx, hby, hml, hown, hnm, hZ, hrt, hlk⟩ := C
  obtain ⟨v, _, ⟨T8, L8, k8, n8⟩, -, X8, ⟨Lc8, ⟨⟨σ', hQ8, hS8⟩, hF8⟩, l8, y8, z8⟩, st8⟩ := Jvm.LawKit.callS X hx (y := y) hown (mvT hZ w1) (mvT hZ w2) (mvT hZ wz) (mvT hZ wc) hy (W.back (a0 := a0) hS S hZ wc wz hf hl) (g := (mkF m pc ls st)) rfl (by rw [hml]; exact hsz) (argsL := as) (rest := rest) (lenOf hsg hln) hst (by show 2 * 0 + _ ≤ _; omega) (hb hby hd) (fun _ _ => ⟨rfl, rfl, hc, hs⟩)
  dsimp only [Pt.U, Pt.locs, Pt.cells, Pt.slots] at X8 l8 y8 z8 st8 hS8
  subst l8 y8 z8
  obtain ⟨u, o, h1, h2⟩ := k v σ' hQ8 p e s m args below meth c T8 _ ⟨hx, hby, hml, hown, hnm, hZ, hrt, hlk⟩ X8 (N.app hF8) hS8
  exact ⟨u, o, st8 _ h1, h2⟩
end Rules
/-! OWN FRAMEWORK, part 2: the heap -/
def ObjP (Z : State) (C : String) (fs : List (String × String × String × Value)) (c : Cell) : Prop :=
  Exa Z #[c] 0 C ∧ (∀ f ∈ fs, Fld Z #[c] 0 f.1 f.2.1 f.2.2.1 f.2.2.2) ∧ fs.Pairwise (fun f f' => RoadKit.slotOf Z f.1 f.2.1 f.2.2.1 ≠ RoadKit.slotOf Z f'.1 f'.2.1 f'.2.2.1)
def IA (Z : State) (ty : FieldType) (xs : List Int32) (c : Cell) : Prop := Z.isArrayOf c ty ∧ c.vm ≠ .unknown ∧ c.slots.toList = xs.map Value.int
def LA (Z : State) (xs : List Int64) (c : Cell) : Prop := Z.isArrayOf c .long ∧ c.vm ≠ .unknown ∧ c.slots.toList = xs.map Value.long
def LaidL (Z : State) (a0 : Array Value) (C : String) : List (String × String × String × Value) → Prop
  | [] => True
  | f :: fs => (Laid Z a0 C f.1 f.2.1 f.2.2.1 ∧ ∃ ty, parseFieldDescriptor f.2.2.1 = some ty ∧ f.2.2.2 = defaultValue ty) ∧ LaidL Z a0 C fs
section Heap
variable {Z : State} {n0 : Nat} {h h' : Heap} {σ σ' : Asn} {a b : Addr} {P P' : Cell → Prop} {i j : Nat} {c : Cell} {C n d : String} {v : Value} {sl : Nat}
theorem fld_out (F : Fld Z #[c] 0 C n d v) (q : h[a]? = some c) : Fld Z h a C n d v := by
  obtain ⟨cell, cf, k, i, f, h1, r⟩ := F
  obtain rfl : c = cell := by simpa using h1
  exact ⟨c, cf, k, i, f, q, r⟩
theorem fld_in (F : Fld Z h a C n d v) (q : h[a]? = some c) : Fld Z #[c] 0 C n d v := by
  obtain ⟨cell, cf, k, i, f, h1, r⟩ := F
  cases q.symm.trans h1
  exact ⟨c, cf, k, i, f, rfl, r⟩
theorem exa_out (F : Exa Z #[c] 0 C) (q : h[a]? = some c) : Exa Z h a C := by
  obtain ⟨cell, k, h1, r⟩ := F
  obtain rfl : c = cell := by simpa using h1
  exact ⟨c, k, q, r⟩
theorem exa_in (F : Exa Z h a C) (q : h[a]? = some c) : Exa Z #[c] 0 C := by
  obtain ⟨cell, k, h1, r⟩ := F
  cases q.symm.trans h1
  exact ⟨c, k, rfl, r⟩
theorem Sep.get (S : Sep Z n0 h σ) (hi : σ[i]? = some (a, P)) : n0 ≤ a ∧ ∃ c : Cell, h[a]? = some c ∧ P c := S.2.1 _ (List.mem_of_getElem? hi)
theorem Sep.ne (S : Sep Z n0 h σ) (hi : σ[i]? = some (a, P)) (hj : σ[j]? = some (b, P')) (hij : i ≠ j) : a ≠ b := by
  have hi' : (σ.map (fun x => x.1))[i]? = some a := by simp [hi]
  have hj' : (σ.map (fun x => x.1))[j]? = some b := by simp [hj]
  obtain ⟨l1, e1⟩ := List.getElem?_eq_some_iff.mp hi'
  obtain ⟨l2, e2⟩ := List.getElem?_eq_some_iff.mp hj'
  have hN := List.pairwise_iff_getElem.mp S.2.2
  rcases Nat.lt_or_gt_of_ne hij with q | q
  · have := hN i j l1 l2 q; rwa [e1, e2] at this
  · have := hN j i l2 l1 q; rw [e1, e2] at this; exact fun z => this z.symm
theorem Sep.lt (S : Sep Z n0 h σ) (hi : σ[i]? = some (a, P)) : a < h.size := by
  obtain ⟨-, c, hc, -⟩ := S.get hi
  exact (Array.getElem?_eq_some_iff.mp hc).1
theorem Sep.set (S : Sep Z n0 h σ) (hi : σ[i]? = some (a, P)) (hW : Wr h h' a sl v) (hP : ∀ c : Cell, h[a]? = some c → P c → P' (c.setSlot sl v)) : Sep Z n0 h' (σ.set i (a, P')) := by
  obtain ⟨hn, c, hc, hp⟩ := S.get hi
  refine ⟨S.1.wr hW hn, ?_, ?_⟩
  · intro x hx
    obtain ⟨j, hj⟩ := List.mem_iff_getElem?.mp hx
    by_cases hij : i = j
    · subst hij
      have hlt := (List.getElem?_eq_some_iff.mp hi).1
      rw [List.getElem?_set_self hlt] at hj
      cases hj
      obtain ⟨c', e1, -, -, -, -, -, e7⟩ := wr_at hW hc
      exact ⟨hn, c.setSlot sl v, by rw [← (e7 rfl).1]; exact e1, hP c hc hp⟩
    · rw [List.getElem?_set_ne hij] at hj
      obtain ⟨xb, xP⟩ := x
      obtain ⟨hn2, c2, hc2, hp2⟩ := S.get hj
      have hne := S.ne hj hi (Ne.symm hij)
      obtain ⟨c', e1, -, -, -, e5, -⟩ := wr_at hW hc2
      exact ⟨hn2, c2, by rw [← e5 hne]; exact e1, hp2⟩
  · have e : (σ.set i (a, P')).map (fun x => x.1) = σ.map (fun x => x.1) := by
      apply List.ext_getElem?
      intro j
      simp only [List.getElem?_map]
      by_cases hij : i = j
      · subst hij
        rw [List.getElem?_set_self (List.getElem?_eq_some_iff.mp hi).1, hi]; rfl
      · rw [List.getElem?_set_ne hij]
    rw [e]; exact S.2.2
theorem Sep.ext (S : Sep Z n0 h σ) (E : Ext h h') : Sep Z n0 h' σ := ⟨S.1.ext E, fun x hx => by obtain ⟨q1, c, q2, q3⟩ := S.2.1 x hx; exact ⟨q1, c, E.2 _ _ q2, q3⟩, S.2.2⟩
theorem Sep.size (S : Sep Z n0 h σ) : n0 ≤ h.size := by rw [← S.1.1]; exact S.1.2.1
theorem Sep.new (S : Sep Z n0 h σ) (E : Ext h h') (hc : h'[h.size]? = some c) (hP : P c) : Sep Z n0 h' ((h.size, P) :: σ) := by
  refine ⟨S.1.ext E, fun x hx => ?_, ?_⟩
  · rcases List.mem_cons.mp hx with rfl | q
    · exact ⟨S.size, c, hc, hP⟩
    · exact (S.ext E).2.1 x q
  · rw [List.map_cons, List.nodup_cons]
    refine ⟨fun q => ?_, S.2.2⟩
    obtain ⟨x, hx, e⟩ := List.mem_map.mp q
    obtain ⟨-, c', hc', -⟩ := S.2.1 x hx
    exact absurd e (Nat.ne_of_lt (Array.getElem?_eq_some_iff.mp hc').1)
theorem Sep.perm (S : Sep Z n0 h σ) (hp : σ.Perm σ') : Sep Z n0 h σ' := ⟨S.1, fun x hx => S.2.1 x (hp.mem_iff.mpr hx), (hp.map (fun x => x.1)).nodup_iff.mp S.2.2⟩
theorem Sep.pull {x : Addr × (Cell → Prop)} (S : Sep Z n0 h σ) (hi : σ[i]? = some x) : Sep Z n0 h (x :: σ.eraseIdx i) := by
  obtain ⟨l1, e1⟩ := List.getElem?_eq_some_iff.mp hi
  subst e1
  refine S.perm ?_
  have e : σ = σ.take i ++ σ[i] :: σ.drop (i + 1) := by rw [← List.drop_eq_getElem_cons l1, List.take_append_drop]
  rw [List.eraseIdx_eq_take_drop_succ]
  conv => lhs; rw [e]
  exact List.perm_middle
theorem Sep.sub (S : Sep Z n0 h σ) (hs : σ'.Sublist σ) : Sep Z n0 h σ' := ⟨S.1, fun x hx => S.2.1 x (hs.subset hx), List.Nodup.sublist (hs.map (fun x => x.1)) S.2.2⟩
theorem ObjP.put {fs : List (String × String × String × Value)} {O nm ds : String} {old : Value} (H : ObjP Z C fs c) (hf : fs[j]? = some (O, nm, ds, old)) (q : h[a]? = some c) (W : Wr h h' a (RoadKit.slotOf Z O nm ds) v) : ObjP Z C (fs.set j (O, nm, ds, v)) (c.setSlot (RoadKit.slotOf Z O nm ds) v) := by
  obtain ⟨h1, h2, h3⟩ := H
  obtain ⟨c', e1, -, -, -, -, -, e7⟩ := wr_at W q
  have q' : h'[a]? = some (c.setSlot (RoadKit.slotOf Z O nm ds) v) := by rw [← (e7 rfl).1]; exact e1
  have hlt := (List.getElem?_eq_some_iff.mp hf).1
  refine ⟨exa_in ((exa_out h1 q).wr W) q', ?_, ?_⟩
  · intro f hfm
    obtain ⟨i, hi⟩ := List.mem_iff_getElem?.mp hfm
    by_cases hij : j = i
    · subst hij
      rw [List.getElem?_set_self hlt] at hi
      cases hi
      exact fld_in ((fld_out (h2 _ (List.mem_of_getElem? hf)) q).same W) q'
    · rw [List.getElem?_set_ne hij] at hi
      refine fld_in ((fld_out (h2 _ (List.mem_of_getElem? hi)) q).other W (Or.inr ?_)) q'
      obtain ⟨l1, r1⟩ := List.getElem?_eq_some_iff.mp hf
      obtain ⟨l2, r2⟩ := List.getElem?_eq_some_iff.mp hi
      have hN := List.pairwise_iff_getElem.mp h3
      rcases Nat.lt_or_gt_of_ne hij with z | z
      · have := hN j i l1 l2 z; rw [r1, r2] at this; exact fun y => this y.symm
      · have := hN i j l2 l1 z; rwa [r1, r2] at this
  · refine List.pairwise_iff_getElem.mpr fun i k hi hk hik => ?_
    have hN := List.pairwise_iff_getElem.mp h3
    have sl_eq : ∀ t (ht : t < (fs.set j (O, nm, ds, v)).length) (ht' : t < fs.length), RoadKit.slotOf Z (fs.set j (O, nm, ds, v))[t].1 (fs.set j (O, nm, ds, v))[t].2.1 (fs.set j (O, nm, ds, v))[t].2.2.1 = RoadKit.slotOf Z fs[t].1 fs[t].2.1 fs[t].2.2.1 := by
      intro t ht ht'
      rw [List.getElem_set]
      split
      · rename_i e; subst e
        have := (List.getElem?_eq_some_iff.mp hf).2
        rw [this]
      · rfl
    have hi' : i < fs.length := by simpa using hi
    have hk' : k < fs.length := by simpa using hk
    rw [sl_eq i hi hi', sl_eq k hk hk']
    exact hN i k hi' hk' hik
theorem laid_mem {a0 : Array Value} : ∀ {fs : List (String × String × String × Value)}, LaidL Z a0 C fs → ∀ f ∈ fs, Laid Z a0 C f.1 f.2.1 f.2.2.1 ∧ ∃ ty, parseFieldDescriptor f.2.2.1 = some ty ∧ f.2.2.2 = defaultValue ty
  | [], _, f, hf => nomatch hf
  | g :: fs, H, f, hf => by
    rcases List.mem_cons.mp hf with rfl | q
    · exact H.1
    · exact laid_mem H.2 f q
theorem laid_pair {a0 : Array Value} {fs : List (String × String × String × Value)} (H : LaidL Z a0 C fs) (hN : (fs.map (fun f => f.2.1)).Nodup) : fs.Pairwise (fun f f' => RoadKit.slotOf Z f.1 f.2.1 f.2.2.1 ≠ RoadKit.slotOf Z f'.1 f'.2.1 f'.2.2.1) := by
  refine List.pairwise_iff_getElem.mpr fun i j hi hj hij => ?_
  obtain ⟨L1, t1, p1, -⟩ := laid_mem H _ (List.getElem_mem hi)
  obtain ⟨L2, t2, p2, -⟩ := laid_mem H _ (List.getElem_mem hj)
  have hn := List.pairwise_iff_getElem.mp hN i j (by simpa using hi) (by simpa using hj) hij
  simp only [List.getElem_map] at hn
  exact RoadKit.slot_ne L1 L2 hn p1 p2
end Heap
section Rules2
variable {l : Launch} {Z : State} {n0 : Nat} {B : Bdy} {R : Room} {Q : Option Value → Asn → Prop} {cells slots : Nat} {σ : Asn} {pc pc' : Nat} {ls ls' : Array Slot} {st st' rest : List Value} {a0 : Array Value}
theorem W.conv {σ' : Asn} (hσ : ∀ h, Sep Z n0 h σ → Sep Z n0 h σ') (k : W l Z n0 B R Q cells slots σ' pc ls st) : W l Z n0 B R Q cells slots σ pc ls st :=
  fun p e s m args below meth c T locs C X N S => k p e s m args below meth c T locs C X N (hσ _ S)
theorem W.pull (τ : Asn) (i : Nat) {x : Addr × (Cell → Prop)} (hi : σ[i]? = some x) (hτ : σ.eraseIdx i = τ) (k : W l Z n0 B R Q cells slots (x :: τ) pc ls st) : W l Z n0 B R Q cells slots σ pc ls st := by
  subst hτ; exact W.conv (fun _ S => S.pull hi) k
def pulls : Asn → List Nat → Asn
  | σ, [] => σ
  | σ, i :: is => pulls (match σ[i]? with | some x => x :: σ.eraseIdx i | none => σ) is
theorem Sep.pulls {h : Heap} : ∀ (is : List Nat) (σ : Asn), Sep Z n0 h σ → Sep Z n0 h (pulls σ is)
  | [], σ, S => S
  | i :: is, σ, S => by
    refine Sep.pulls is _ ?_
    cases hx : σ[i]? with
    | none => exact S
    | some x => exact S.pull hx
theorem W.pulls (τ : Asn) (is : List Nat) (hτ : pulls σ is = τ) (k : W l Z n0 B R Q cells slots τ pc ls st) : W l Z n0 B R Q cells slots σ pc ls st := by
  subst hτ; exact W.conv (fun _ S => S.pulls is σ) k
theorem W.ne (i j : Nat) {a b : Addr} {P P' : Cell → Prop} (hi : σ[i]? = some (a, P)) (hj : σ[j]? = some (b, P')) (hij : i ≠ j) (k : a ≠ b → W l Z n0 B R Q cells slots σ pc ls st) : W l Z n0 B R Q cells slots σ pc ls st :=
  fun p e s m args below meth c T locs C X N S => k (S.ne hi hj hij) p e s m args below meth c T locs C X N S
theorem W.of2 {σ' : Asn} {cells' slots' : Nat} (hstep : ∀ (p : Program) (e : Env) (s : State) (m : MethodId) (args : Array Value) (below : List Frame) (meth : Method) (c : Code) (T : State) (locs : List Loc), Cx p s m meth c Z B → Stand p l e R s m args below meth c T locs cells slots → Fr n0 locs → Sep Z n0 T.heap σ →
      ∃ (T' : State) (locs' : List Loc), Stand p l e R s m args below meth c T' locs' cells' slots' ∧ Fr n0 locs' ∧ Sep Z n0 T'.heap σ' ∧ ∀ t, Steps p.tables e below (T'.setTop (mkF m pc' ls' st')) t → Steps p.tables e below (T.setTop (mkF m pc ls st)) t)
    (k : W l Z n0 B R Q cells' slots' σ' pc' ls' st') : W l Z n0 B R Q cells slots σ pc ls st := by
  intro p e s m args below meth c T locs C X N S
  obtain ⟨T', locs', X', N', S', st⟩ := hstep p e s m args below meth c T locs C X N S
  obtain ⟨u, o, h1, h2⟩ := k p e s m args below meth c T' locs' C X' N' S'
  exact ⟨u, o, st u h1, h2⟩
theorem W.getF (i j : Nat) {idx : Nat} {a : Addr} {C R0 O n d host : String} {fs : List (String × String × String × Value)} {v : Value} (hd : decode B.2.2.1 pc = .ok (.getfield idx, 3)) (w : (Jvm.Cond.fieldLink B.1 idx R0 n d).before a0 Z = true ∨ (Jvm.Cond.fieldLinkNest B.1 idx R0 n d host).before a0 Z = true) (via : Via Z R0 O n d)
    (hi : σ[i]? = some (a, ObjP Z C fs)) (hf : fs[j]? = some (O, n, d, v)) (hp : pc + 3 = pc') (k : W l Z n0 B R Q cells slots σ pc' ls (v :: st)) : W l Z n0 B R Q cells slots σ pc ls (.ref a :: st) := by
  subst hp
  refine W.of2 (fun p e s m args below meth c T locs ⟨hx, hby, hml, hown, hnm, hZ, hrt, hlk⟩ X N S => ?_) k
  obtain ⟨-, c1, hc1, H⟩ := S.get hi
  obtain ⟨T', X', e', st'⟩ := RoadKit.getF X hx hZ hown w via rfl (fld_out (H.2.1 _ (List.mem_of_getElem? hf)) hc1) (g := mkF m pc ls (.ref a :: st)) rfl rfl (hb hby hd)
  exact ⟨T', locs, X', N, by rw [e']; exact S, st'⟩
theorem W.putF (σ' : Asn) (i j : Nat) {idx kk : Nat} {a : Addr} {C R0 O n d host : String} {ty : FieldType} {fs : List (String × String × String × Value)} {v old : Value} (hd : decode B.2.2.1 pc = .ok (.putfield idx, 3)) (w : (Jvm.Cond.fieldLink B.1 idx R0 n d).before a0 Z = true ∨ (Jvm.Cond.fieldLinkNest B.1 idx R0 n d host).before a0 Z = true) (via : Via Z R0 O n d)
    (L : (Jvm.Cond.lays C O n d).before a0 Z = true ∨ ((Jvm.Cond.laysFinal C O n d).before a0 Z = true ∧ B.1 = O ∧ B.2.1 = "<init>")) (wi : (Jvm.Cond.instantiable C kk).before a0 Z = true) (hty : parseFieldDescriptor d = some ty) (hn : narrow ty v = v) (hft : fits ty v = true)
    (hi : σ[i]? = some (a, ObjP Z C fs)) (hf : fs[j]? = some (O, n, d, old)) (hσ : σ.set i (a, ObjP Z C (fs.set j (O, n, d, v))) = σ') (hp : pc + 3 = pc') (k : W l Z n0 B R Q cells slots σ' pc' ls st) : W l Z n0 B R Q cells slots σ pc ls (v :: .ref a :: st) := by
  subst hp hσ
  refine W.of2 (fun p e s m args below meth c T locs ⟨hx, hby, hml, hown, hnm, hZ, hrt, hlk⟩ X N S => ?_) k
  obtain ⟨ha, c1, hc1, H⟩ := S.get hi
  obtain ⟨T', h', X', e', Wr', st'⟩ := RoadKit.putF X hx hZ hown w via rfl (fld_out (H.2.1 _ (List.mem_of_getElem? hf)) hc1) (exa_out H.1 hc1) (L.imp id (fun q => ⟨q.1, q.2.1, hnm.trans q.2.2⟩)) wi hty hn hft (g := mkF m pc ls (v :: .ref a :: st)) rfl rfl (hb hby hd)
  exact ⟨T', _, X', Fr.snoc X' N ha, by rw [e']; exact S.set hi Wr' (fun c2 hc2 H2 => H2.put hf hc2 Wr'), st'⟩
theorem W.getS {idx : Nat} {R0 O n d : String} {v : Value} (hd : decode B.2.2.1 pc = .ok (.getstatic idx, 3)) (w : (Jvm.Cond.fieldLink B.1 idx R0 n d).before a0 Z = true) (via : Via Z R0 O n d) (F : Sta Z Z.heap O n d v) (hp : pc + 3 = pc') (k : W l Z n0 B R Q cells slots σ pc' ls (v :: st)) : W l Z n0 B R Q cells slots σ pc ls st := by
  subst hp
  refine W.of2 (fun p e s m args below meth c T locs ⟨hx, hby, hml, hown, hnm, hZ, hrt, hlk⟩ X N S => ?_) k
  obtain ⟨T', X', e', st'⟩ := RoadKit.getS (host := "") X hx hZ hown w via rfl (F.ext S.1.2) (g := mkF m pc ls st) rfl (hb hby hd)
  exact ⟨T', locs, X', N, by rw [e']; exact S, st'⟩
theorem W.new {idx kk : Nat} {C : String} (fs : List (String × String × String × Value)) (hd : decode B.2.2.1 pc = .ok (.new idx, 3)) (w : (Jvm.Cond.classLink B.1 idx C).before a0 Z = true) (wi : (Jvm.Cond.instantiable C kk).before a0 Z = true) (wz : (Jvm.Cond.initialized C).before a0 Z = true)
    (hL : LaidL Z a0 C fs) (hN : (fs.map (fun f => f.2.1)).Nodup) (hc : cells + 1 ≤ R.cells) (hs : slots + kk ≤ R.slots) (hp : pc + 3 = pc') (k : ∀ a, W l Z n0 B R Q (cells + 1) (slots + kk) ((a, ObjP Z C fs) :: σ) pc' ls (.ref a :: st)) : W l Z n0 B R Q cells slots σ pc ls st := by
  subst hp
  intro p e s m args below meth c T locs C0 X N S
  obtain ⟨hx, hby, hml, hown, hnm, hZ, hrt, hlk⟩ := C0
  obtain ⟨T2, h2, X2, e2, E2, A2, D2, ⟨cl, hcl, -, -⟩, st2⟩ := RoadKit.newO X hx hZ hown w wi wz rfl (g := mkF m pc ls st) rfl (hb hby hd) hc hs
  have S2 : Sep Z n0 h2 ((T.heap.size, ObjP Z C fs) :: σ) := by
    refine S.new E2 hcl ⟨exa_in A2 hcl, fun f hf => ?_, laid_pair hL hN⟩
    obtain ⟨L1, ty, q1, q2⟩ := laid_mem hL f hf
    rw [q2]
    exact fld_in (D2 L1 q1) hcl
  obtain ⟨u, o, h1, h3⟩ := k T.heap.size p e s m args below meth c T2 locs ⟨hx, hby, hml, hown, hnm, hZ, hrt, hlk⟩ X2 N (by rw [e2]; exact S2)
  exact ⟨u, o, st2 u h1, h3⟩
theorem newA_list (cA : ClassId) (ty : FieldType) (n : Int32) : (newA cA ty n).slots.toList = List.replicate n.toNatClampNeg (defaultValue ty) := by simp [newA]
theorem W.newI (N : Nat) {aty : ArrayType} {n : Int32} (cap : Nat) (hd : decode B.2.2.1 pc = .ok (.newarray aty, 2)) (w : (Jvm.Cond.arrayClass (newarray.typeOf aty)).before a0 Z = true) (hdef : defaultValue (newarray.typeOf aty) = .int 0) (hn : ¬ n < 0) (hN : n.toNatClampNeg = N) (hcap : N ≤ cap) (h8 : cap * 8 ≤ 536870912)
    (hc : cells + 1 ≤ R.cells) (hs : slots + cap ≤ R.slots) (hp : pc + 2 = pc') (k : ∀ a, W l Z n0 B R Q (cells + 1) (slots + cap) ((a, IA Z (newarray.typeOf aty) (List.replicate N 0)) :: σ) pc' ls (.ref a :: st)) : W l Z n0 B R Q cells slots σ pc ls (.int n :: st) := by
  subst hp hN
  intro p e s m args below meth c T locs C0 X N S
  obtain ⟨hx, hby, hml, hown, hnm, hZ, hrt, hlk⟩ := C0
  obtain ⟨T2, h2, cA, X2, e2, E2, A2, st2⟩ := RoadKit.newP X hx hZ w rfl (g := mkF m pc ls (.int n :: st)) rfl (hb hby hd) rfl hn hcap h8 hc hs
  have S2 := S.new (P := IA Z (newarray.typeOf aty) (List.replicate n.toNatClampNeg 0)) E2 A2.1 ⟨A2.2.1, A2.2.2, by rw [newA_list, hdef, List.map_replicate]⟩
  obtain ⟨u, o, h1, h3⟩ := k T.heap.size p e s m args below meth c T2 locs ⟨hx, hby, hml, hown, hnm, hZ, hrt, hlk⟩ X2 N (by rw [e2]; exact S2)
  exact ⟨u, o, st2 u h1, h3⟩
theorem W.newJ (N : Nat) {n : Int32} (cap : Nat) (hd : decode B.2.2.1 pc = .ok (.newarray .long, 2)) (w : (Jvm.Cond.arrayClass .long).before a0 Z = true) (hn : ¬ n < 0) (hN : n.toNatClampNeg = N) (hcap : N ≤ cap) (h8 : cap * 8 ≤ 536870912)
    (hc : cells + 1 ≤ R.cells) (hs : slots + cap ≤ R.slots) (hp : pc + 2 = pc') (k : ∀ a, W l Z n0 B R Q (cells + 1) (slots + cap) ((a, LA Z (List.replicate N 0)) :: σ) pc' ls (.ref a :: st)) : W l Z n0 B R Q cells slots σ pc ls (.int n :: st) := by
  subst hp hN
  intro p e s m args below meth c T locs C0 X N S
  obtain ⟨hx, hby, hml, hown, hnm, hZ, hrt, hlk⟩ := C0
  obtain ⟨T2, h2, cA, X2, e2, E2, A2, st2⟩ := RoadKit.newP X hx hZ (aty := .long) w rfl (g := mkF m pc ls (.int n :: st)) rfl (hb hby hd) rfl hn hcap h8 hc hs
  have S2 := S.new (P := LA Z (List.replicate n.toNatClampNeg 0)) E2 A2.1 ⟨A2.2.1, A2.2.2, by rw [newA_list, List.map_replicate]; rfl⟩
  obtain ⟨u, o, h1, h3⟩ := k T.heap.size p e s m args below meth c T2 locs ⟨hx, hby, hml, hown, hnm, hZ, hrt, hlk⟩ X2 N (by rw [e2]; exact S2)
  exact ⟨u, o, st2 u h1, h3⟩
theorem slot_get {c : Cell} {vs : List Value} {n : Nat} {v : Value} (h : c.slots.toList = vs) (hv : vs[n]? = some v) : c.slots[n]? = some v ∧ n < c.slots.size := by
  have e : c.slots[n]? = some v := by rw [← Array.getElem?_toList, h]; exact hv
  exact ⟨e, (Array.getElem?_eq_some_iff.mp e).1⟩
theorem slot_set {c : Cell} {vs : List Value} (h : c.slots.toList = vs) (n : Nat) (v : Value) : (c.setSlot n v).slots.toList = vs.set n v := by rw [← h]; simp [Cell.setSlot]
theorem slot_in {c : Cell} {n : Nat} {j : Int32} (h0 : ¬ j < 0) (hn : j.toNatClampNeg = n) (h : n < c.slots.size) : ¬ (j < 0 ∨ c.slots.size ≤ j.toNatClampNeg) := by rw [hn]; exact fun q => q.elim h0 (fun z => by omega)
theorem W.iaload (i n : Nat) {a : Addr} {xs : List Int32} {j : Int32} {x : Int32} (hd : decode B.2.2.1 pc = .ok (.iaload, 1)) (hi : σ[i]? = some (a, IA Z .int xs)) (h0 : ¬ j < 0) (hn : j.toNatClampNeg = n) (hx : xs[n]? = some x) (hp : pc + 1 = pc') (k : W l Z n0 B R Q cells slots σ pc' ls (.int x :: st)) : W l Z n0 B R Q cells slots σ pc ls (.int j :: .ref a :: st) := by
  subst hp
  refine W.of2 (fun p e s m args below meth c T locs ⟨hx', hby, hml, hown, hnm, hZ, hrt, hlk⟩ X N S => ?_) k
  obtain ⟨-, c1, hc1, H1, H2, H3⟩ := S.get hi
  obtain ⟨g1, g2⟩ := slot_get (n := n) (v := .int x) H3 (by rw [List.getElem?_map, hx]; rfl)
  exact ⟨T, locs, X, N, S, fun t ht => X.iaload hx' hc1 (State.isArrayOf_alike hZ.alike H1) H2 (slot_in h0 hn g2) (by rw [hn]; exact g1) (g := mkF m pc ls (.int j :: .ref a :: st)) rfl rfl (hb hby hd) t ht⟩
theorem W.caload (i n : Nat) {a : Addr} {xs : List Int32} {j : Int32} {x : Int32} (hd : decode B.2.2.1 pc = .ok (.caload, 1)) (hi : σ[i]? = some (a, IA Z .char xs)) (h0 : ¬ j < 0) (hn : j.toNatClampNeg = n) (hx : xs[n]? = some x) (hp : pc + 1 = pc') (k : W l Z n0 B R Q cells slots σ pc' ls (.int x :: st)) : W l Z n0 B R Q cells slots σ pc ls (.int j :: .ref a :: st) := by
  subst hp
  refine W.of2 (fun p e s m args below meth c T locs ⟨hx', hby, hml, hown, hnm, hZ, hrt, hlk⟩ X N S => ?_) k
  obtain ⟨-, c1, hc1, H1, H2, H3⟩ := S.get hi
  obtain ⟨g1, g2⟩ := slot_get (n := n) (v := .int x) H3 (by rw [List.getElem?_map, hx]; rfl)
  exact ⟨T, locs, X, N, S, fun t ht => X.caload hx' hc1 (State.isArrayOf_alike hZ.alike H1) H2 (slot_in h0 hn g2) (by rw [hn]; exact g1) (g := mkF m pc ls (.int j :: .ref a :: st)) rfl rfl (hb hby hd) t ht⟩
theorem W.baload (i n : Nat) {a : Addr} {xs : List Int32} {j : Int32} {x : Int32} (hd : decode B.2.2.1 pc = .ok (.baload, 1)) (hi : σ[i]? = some (a, IA Z .byte xs)) (h0 : ¬ j < 0) (hn : j.toNatClampNeg = n) (hx : xs[n]? = some x) (hp : pc + 1 = pc') (k : W l Z n0 B R Q cells slots σ pc' ls (.int x :: st)) : W l Z n0 B R Q cells slots σ pc ls (.int j :: .ref a :: st) := by
  subst hp
  refine W.of2 (fun p e s m args below meth c T locs ⟨hx', hby, hml, hown, hnm, hZ, hrt, hlk⟩ X N S => ?_) k
  obtain ⟨-, c1, hc1, H1, H2, H3⟩ := S.get hi
  obtain ⟨g1, g2⟩ := slot_get (n := n) (v := .int x) H3 (by rw [List.getElem?_map, hx]; rfl)
  exact ⟨T, locs, X, N, S, fun t ht => X.baloadBytes hx' hc1 (State.isArrayOf_alike hZ.alike H1) H2 (slot_in h0 hn g2) (by rw [hn]; exact g1) (g := mkF m pc ls (.int j :: .ref a :: st)) rfl rfl (hb hby hd) t ht⟩
theorem W.zaload (i n : Nat) {a : Addr} {xs : List Int32} {j : Int32} {x : Int32} (hd : decode B.2.2.1 pc = .ok (.baload, 1)) (hi : σ[i]? = some (a, IA Z .boolean xs)) (h0 : ¬ j < 0) (hn : j.toNatClampNeg = n) (hx : xs[n]? = some x) (hp : pc + 1 = pc') (k : W l Z n0 B R Q cells slots σ pc' ls (.int x :: st)) : W l Z n0 B R Q cells slots σ pc ls (.int j :: .ref a :: st) := by
  subst hp
  refine W.of2 (fun p e s m args below meth c T locs ⟨hx', hby, hml, hown, hnm, hZ, hrt, hlk⟩ X N S => ?_) k
  obtain ⟨-, c1, hc1, H1, H2, H3⟩ := S.get hi
  obtain ⟨g1, g2⟩ := slot_get (n := n) (v := .int x) H3 (by rw [List.getElem?_map, hx]; rfl)
  exact ⟨T, locs, X, N, S, fun t ht => X.baloadBooleans hx' hc1 (State.isArrayOf_alike hZ.alike H1) H2 (slot_in h0 hn g2) (by rw [hn]; exact g1) (g := mkF m pc ls (.int j :: .ref a :: st)) rfl rfl (hb hby hd) t ht⟩
theorem W.laload (i n : Nat) {a : Addr} {xs : List Int64} {j : Int32} {x : Int64} (hd : decode B.2.2.1 pc = .ok (.laload, 1)) (hi : σ[i]? = some (a, LA Z xs)) (h0 : ¬ j < 0) (hn : j.toNatClampNeg = n) (hx : xs[n]? = some x) (hp : pc + 1 = pc') (k : W l Z n0 B R Q cells slots σ pc' ls (.long x :: st)) : W l Z n0 B R Q cells slots σ pc ls (.int j :: .ref a :: st) := by
  subst hp
  refine W.of2 (fun p e s m args below meth c T locs ⟨hx', hby, hml, hown, hnm, hZ, hrt, hlk⟩ X N S => ?_) k
  obtain ⟨-, c1, hc1, H1, H2, H3⟩ := S.get hi
  obtain ⟨g1, g2⟩ := slot_get (n := n) (v := .long x) H3 (by rw [List.getElem?_map, hx]; rfl)
  exact ⟨T, locs, X, N, S, fun t ht => X.laload hx' hc1 (State.isArrayOf_alike hZ.alike H1) H2 (slot_in h0 hn g2) (by rw [hn]; exact g1) (g := mkF m pc ls (.int j :: .ref a :: st)) rfl rfl (hb hby hd) t ht⟩
theorem W.iastore (σ' : Asn) (i n : Nat) {a : Addr} {xs : List Int32} {j : Int32} {x : Int32} (hd : decode B.2.2.1 pc = .ok (.iastore, 1)) (hi : σ[i]? = some (a, IA Z .int xs)) (h0 : ¬ j < 0) (hn : j.toNatClampNeg = n) (hx : n < xs.length) (hσ : σ.set i (a, IA Z .int (xs.set n (x))) = σ') (hp : pc + 1 = pc') (k : W l Z n0 B R Q cells slots σ' pc' ls st) : W l Z n0 B R Q cells slots σ pc ls (.int x :: .int j :: .ref a :: st) := by
  subst hp hσ
  refine W.of2 (fun p e s m args below meth c T locs ⟨hx', hby, hml, hown, hnm, hZ, hrt, hlk⟩ X N S => ?_) k
  obtain ⟨ha, c1, hc1, H1, H2, H3⟩ := S.get hi
  have g2 : n < c1.slots.size := by rw [← Array.length_toList, H3, List.length_map]; exact hx
  obtain ⟨T', h', X', e', W', st'⟩ := RoadKit.stI X hx' hZ rfl ⟨hc1, H1, H2⟩ (slot_in h0 hn g2) (g := mkF m pc ls (.int x :: .int j :: .ref a :: st)) rfl rfl (hb hby hd)
  rw [hn] at W'
  refine ⟨T', _, X', Fr.snoc X' N ha, ?_, st'⟩
  rw [e']
  exact S.set hi W' (fun c2 hc2 H => ⟨H.1, H.2.1, by rw [slot_set H.2.2, List.map_set]⟩)
theorem W.castore (σ' : Asn) (i n : Nat) {a : Addr} {xs : List Int32} {j : Int32} {x : Int32} (hd : decode B.2.2.1 pc = .ok (.castore, 1)) (hi : σ[i]? = some (a, IA Z .char xs)) (h0 : ¬ j < 0) (hn : j.toNatClampNeg = n) (hx : n < xs.length) (hσ : σ.set i (a, IA Z .char (xs.set n (nar .char x))) = σ') (hp : pc + 1 = pc') (k : W l Z n0 B R Q cells slots σ' pc' ls st) : W l Z n0 B R Q cells slots σ pc ls (.int x :: .int j :: .ref a :: st) := by
  subst hp hσ
  refine W.of2 (fun p e s m args below meth c T locs ⟨hx', hby, hml, hown, hnm, hZ, hrt, hlk⟩ X N S => ?_) k
  obtain ⟨ha, c1, hc1, H1, H2, H3⟩ := S.get hi
  have g2 : n < c1.slots.size := by rw [← Array.length_toList, H3, List.length_map]; exact hx
  obtain ⟨T', h', X', e', W', st'⟩ := RoadKit.stC X hx' hZ rfl ⟨hc1, H1, H2⟩ (slot_in h0 hn g2) (g := mkF m pc ls (.int x :: .int j :: .ref a :: st)) rfl rfl (hb hby hd)
  rw [hn] at W'
  refine ⟨T', _, X', Fr.snoc X' N ha, ?_, st'⟩
  rw [e']
  exact S.set hi W' (fun c2 hc2 H => ⟨H.1, H.2.1, by rw [slot_set H.2.2, List.map_set]⟩)
theorem W.bastore (σ' : Asn) (i n : Nat) {a : Addr} {xs : List Int32} {j : Int32} {x : Int32} (hd : decode B.2.2.1 pc = .ok (.bastore, 1)) (hi : σ[i]? = some (a, IA Z .byte xs)) (h0 : ¬ j < 0) (hn : j.toNatClampNeg = n) (hx : n < xs.length) (hσ : σ.set i (a, IA Z .byte (xs.set n (nar .byte x))) = σ') (hp : pc + 1 = pc') (k : W l Z n0 B R Q cells slots σ' pc' ls st) : W l Z n0 B R Q cells slots σ pc ls (.int x :: .int j :: .ref a :: st) := by
  subst hp hσ
  refine W.of2 (fun p e s m args below meth c T locs ⟨hx', hby, hml, hown, hnm, hZ, hrt, hlk⟩ X N S => ?_) k
  obtain ⟨ha, c1, hc1, H1, H2, H3⟩ := S.get hi
  have g2 : n < c1.slots.size := by rw [← Array.length_toList, H3, List.length_map]; exact hx
  obtain ⟨T', h', X', e', W', st'⟩ := RoadKit.stB X hx' hZ rfl ⟨hc1, H1, H2⟩ (slot_in h0 hn g2) (g := mkF m pc ls (.int x :: .int j :: .ref a :: st)) rfl rfl (hb hby hd)
  rw [hn] at W'
  refine ⟨T', _, X', Fr.snoc X' N ha, ?_, st'⟩
  rw [e']
  exact S.set hi W' (fun c2 hc2 H => ⟨H.1, H.2.1, by rw [slot_set H.2.2, List.map_set]⟩)
theorem W.zastore (σ' : Asn) (i n : Nat) {a : Addr} {xs : List Int32} {j : Int32} {x : Int32} (hd : decode B.2.2.1 pc = .ok (.bastore, 1)) (hi : σ[i]? = some (a, IA Z .boolean xs)) (h0 : ¬ j < 0) (hn : j.toNatClampNeg = n) (hx : n < xs.length) (hσ : σ.set i (a, IA Z .boolean (xs.set n (nar .boolean x))) = σ') (hp : pc + 1 = pc') (k : W l Z n0 B R Q cells slots σ' pc' ls st) : W l Z n0 B R Q cells slots σ pc ls (.int x :: .int j :: .ref a :: st) := by
  subst hp hσ
  refine W.of2 (fun p e s m args below meth c T locs ⟨hx', hby, hml, hown, hnm, hZ, hrt, hlk⟩ X N S => ?_) k
  obtain ⟨ha, c1, hc1, H1, H2, H3⟩ := S.get hi
  have g2 : n < c1.slots.size := by rw [← Array.length_toList, H3, List.length_map]; exact hx
  obtain ⟨T', h', X', e', W', st'⟩ := RoadKit.stZ X hx' hZ rfl ⟨hc1, H1, H2⟩ (slot_in h0 hn g2) (g := mkF m pc ls (.int x :: .int j :: .ref a :: st)) rfl rfl (hb hby hd)
  rw [hn] at W'
  refine ⟨T', _, X', Fr.snoc X' N ha, ?_, st'⟩
  rw [e']
  exact S.set hi W' (fun c2 hc2 H => ⟨H.1, H.2.1, by rw [slot_set H.2.2, List.map_set]⟩)
theorem W.lastore (σ' : Asn) (i n : Nat) {a : Addr} {xs : List Int64} {j : Int32} {x : Int64} (hd : decode B.2.2.1 pc = .ok (.lastore, 1)) (hi : σ[i]? = some (a, LA Z xs)) (h0 : ¬ j < 0) (hn : j.toNatClampNeg = n) (hx : n < xs.length) (hσ : σ.set i (a, LA Z (xs.set n (x))) = σ') (hp : pc + 1 = pc') (k : W l Z n0 B R Q cells slots σ' pc' ls st) : W l Z n0 B R Q cells slots σ pc ls (.long x :: .int j :: .ref a :: st) := by
  subst hp hσ
  refine W.of2 (fun p e s m args below meth c T locs ⟨hx', hby, hml, hown, hnm, hZ, hrt, hlk⟩ X N S => ?_) k
  obtain ⟨ha, c1, hc1, H1, H2, H3⟩ := S.get hi
  have g2 : n < c1.slots.size := by rw [← Array.length_toList, H3, List.length_map]; exact hx
  obtain ⟨T', h', X', e', W', st'⟩ := RoadKit.stJ X hx' hZ rfl ⟨hc1, H1, H2⟩ (slot_in h0 hn g2) (g := mkF m pc ls (.long x :: .int j :: .ref a :: st)) rfl rfl (hb hby hd)
  rw [hn] at W'
  refine ⟨T', _, X', Fr.snoc X' N ha, ?_, st'⟩
  rw [e']
  exact S.set hi W' (fun c2 hc2 H => ⟨H.1, H.2.1, by rw [slot_set H.2.2, List.map_set]⟩)
theorem W.len (i : Nat) {a : Addr} {ty : FieldType} {xs : List Int32} (v : Int32) (hd : decode B.2.2.1 pc = .ok (.arraylength, 1)) (hi : σ[i]? = some (a, IA Z ty xs)) (hv : xs.length.toInt32 = v) (hp : pc + 1 = pc') (k : W l Z n0 B R Q cells slots σ pc' ls (.int v :: st)) : W l Z n0 B R Q cells slots σ pc ls (.ref a :: st) := by
  subst hp hv
  refine W.of2 (fun p e s m args below meth c T locs ⟨hx, hby, hml, hown, hnm, hZ, hrt, hlk⟩ X N S => ?_) k
  obtain ⟨-, c1, hc1, H1, H2, H3⟩ := S.get hi
  refine ⟨T, locs, X, N, S, fun t ht => X.arraylength hx hc1 (State.isArrayOf_alike hZ.alike H1) (g := mkF m pc ls (.ref a :: st)) rfl rfl (hb hby hd) t ?_⟩
  have e : c1.slots.size = xs.length := by rw [← Array.length_toList, H3, List.length_map]
  rw [e]; exact ht
theorem W.lenJ (i : Nat) {a : Addr} {xs : List Int64} (v : Int32) (hd : decode B.2.2.1 pc = .ok (.arraylength, 1)) (hi : σ[i]? = some (a, LA Z xs)) (hv : xs.length.toInt32 = v) (hp : pc + 1 = pc') (k : W l Z n0 B R Q cells slots σ pc' ls (.int v :: st)) : W l Z n0 B R Q cells slots σ pc ls (.ref a :: st) := by
  subst hp hv
  refine W.of2 (fun p e s m args below meth c T locs ⟨hx, hby, hml, hown, hnm, hZ, hrt, hlk⟩ X N S => ?_) k
  obtain ⟨-, c1, hc1, H1, H2, H3⟩ := S.get hi
  refine ⟨T, locs, X, N, S, fun t ht => X.arraylength hx hc1 (State.isArrayOf_alike hZ.alike H1) (g := mkF m pc ls (.ref a :: st)) rfl rfl (hb hby hd) t ?_⟩
  have e : c1.slots.size = xs.length := by rw [← Array.length_toList, H3, List.length_map]
  rw [e]; exact ht
theorem W.initO {i : Nat} {a : Addr} (hd : decode B.2.2.1 pc = .ok (.invokespecial i, 3)) (w1 : (Jvm.Cond.methodLink B.1 i Lib.objectInit).before a0 Z = true) (w2 : (Jvm.Cond.instanceMethod Lib.objectInit).before a0 Z = true) (w3 : (Jvm.Cond.code Lib.objectInit object_method_1_code 1 none).before a0 Z = true)
    (hsz : ls.size = B.2.2.2.1) (hf : 1 ≤ R.frames) (hl : (st.map fun v => v.category).sum + 12 ≤ R.locals) (hp : pc + 3 = pc') (k : W l Z n0 B R Q cells slots σ pc' ls st) : W l Z n0 B R Q cells slots σ pc ls (.ref a :: st) := by
  subst hp
  refine W.of2 (fun p e s m args below meth c T locs ⟨hx, hby, hml, hown, hnm, hZ, hrt, hlk⟩ X N S => ?_) k
  obtain ⟨T', X', e', st'⟩ := RoadKit.initO X hx hZ hown w1 w2 w3 rfl (g := mkF m pc ls (.ref a :: st)) rfl (by rw [hml]; exact hsz) rfl (hb hby hd) hf (W := (st.map fun v => v.category).sum) (by show 2 * 0 + _ ≤ _; omega) hl
  exact ⟨T', locs, X', N, by rw [e']; exact S, st'⟩
theorem W.callI {y : MethodName} {bytes : ByteArray} {maxL : Nat} {rm : Room} {a : Addr} {as : List Value} {Qc : Option Value → Asn → Prop} {i : Nat} {sg : MethodDescriptor} (hS : Sp l Z n0 y bytes maxL none rm (.ref a :: as) σ Qc)
    (hd : decode B.2.2.1 pc = .ok (.invokespecial i, 3)) (hy1 : y.name = "<init>") (w1 : (Jvm.Cond.methodLink B.1 i y).before a0 Z = true) (w2 : (Jvm.Cond.instanceMethod y).before a0 Z = true) (wz : (Jvm.Cond.initialized y.cls).before a0 Z = true) (wc : (Jvm.Cond.code y bytes maxL none).before a0 Z = true)
    (hy : y.cls ≠ "java/lang/invoke/MethodHandle" ∧ y.cls ≠ "java/lang/invoke/VarHandle") (hsg : parseMethodDescriptor y.desc = some sg) (hln : as.length = sg.parameters.length) (hst : st = as.reverse ++ .ref a :: rest)
    (hf : rm.frames + 1 ≤ R.frames) (hl : (rest.map fun v => v.category).sum + (maxL + 11) + rm.locals ≤ R.locals) (hc : cells + rm.cells ≤ R.cells) (hs : slots + rm.slots ≤ R.slots) (hsz : ls.size = B.2.2.2.1) (hp : pc + 3 = pc')
    (k : ∀ v σ', Qc v σ' → W l Z n0 B R Q (cells + rm.cells) (slots + rm.slots) σ' pc' ls (v.toList ++ rest)) : W l Z n0 B R Q cells slots σ pc ls st := by
  subst hp
  intro p e s m args below meth c T locs C X N S
  obtain ⟨hx, hby, hml, hown, hnm, hZ, hrt, hlk⟩ := C
  obtain ⟨v, _, ⟨T8, L8, k8, n8⟩, -, X8, ⟨Lc8, ⟨⟨σ', hQ8, hS8⟩, hF8⟩, l8, y8, z8⟩, st8⟩ := X.specialBack hx (y := y) hy1 hown (mvT hZ w1) (mvT hZ w2) (mvT hZ wc) hy (W.back (a0 := a0) hS S hZ wc wz hf hl) (g := (mkF m pc ls st)) rfl (by rw [hml]; exact hsz) (Steps.refl _) (a := a) (argsL := as) (rest := rest) (lenOf hsg hln) hst (by show 2 * 0 + _ ≤ _; omega) (hb hby hd) (fun _ _ => ⟨rfl, rfl, hc, hs⟩)
  dsimp only [Pt.U, Pt.locs, Pt.cells, Pt.slots] at X8 l8 y8 z8 st8 hS8
  subst l8 y8 z8
  obtain ⟨u, o, h1, h2⟩ := k v σ' hQ8 p e s m args below meth c T8 _ ⟨hx, hby, hml, hown, hnm, hZ, hrt, hlk⟩ X8 (N.app hF8) hS8
  exact ⟨u, o, st8.trans h1, h2⟩
theorem W.callV (j : Nat) {y : MethodName} {bytes : ByteArray} {maxL : Nat} {ret : Option FieldType} {rm : Room} {a : Addr} {C : String} {fs : List (String × String × String × Value)} {as : List Value} {Qc : Option Value → Asn → Prop} {i : Nat} {sg : MethodDescriptor} (hj : σ[j]? = some (a, ObjP Z C fs)) (hS : Sp l Z n0 y bytes maxL ret rm (.ref a :: as) σ Qc)
    (hd : decode B.2.2.1 pc = .ok (.invokevirtual i, 3)) (w1 : (Jvm.Cond.methodLink B.1 i y).before a0 Z = true) (wd : (Jvm.Cond.declares y).before a0 Z = true) (wsl : (Jvm.Cond.selects C y y).before a0 Z = true) (w2 : (Jvm.Cond.instanceMethod y).before a0 Z = true) (wz : (Jvm.Cond.initialized y.cls).before a0 Z = true) (wc : (Jvm.Cond.code y bytes maxL ret).before a0 Z = true) (hyc : C = y.cls)
    (hy : y.cls ≠ "java/lang/invoke/MethodHandle" ∧ y.cls ≠ "java/lang/invoke/VarHandle") (hsg : parseMethodDescriptor y.desc = some sg) (hln : as.length = sg.parameters.length) (hst : st = as.reverse ++ .ref a :: rest)
    (hf : rm.frames + 1 ≤ R.frames) (hl : (rest.map fun v => v.category).sum + (maxL + 11) + rm.locals ≤ R.locals) (hc : cells + rm.cells ≤ R.cells) (hs : slots + rm.slots ≤ R.slots) (hsz : ls.size = B.2.2.2.1) (hp : pc + 3 = pc')
    (k : ∀ v σ', Qc v σ' → W l Z n0 B R Q (cells + rm.cells) (slots + rm.slots) σ' pc' ls (v.toList ++ rest)) : W l Z n0 B R Q cells slots σ pc ls st := by
  subst hp hyc
  intro p e s m args below meth c T locs Cc X N S
  obtain ⟨hx, hby, hml, hown, hnm, hZ, hrt, hlk⟩ := Cc
  obtain ⟨-, c1, hc1, H⟩ := S.get hj
  obtain ⟨cq, kq, qa, qb, qc⟩ := isOf hZ rfl (exa_out H.1 hc1)
  obtain ⟨v, _, ⟨T8, L8, k8, n8⟩, -, X8, ⟨Lc8, ⟨⟨σ', hQ8, hS8⟩, hF8⟩, l8, y8, z8⟩, st8⟩ := X.virtualBack hx (y := y) (z := y) hown (mvT hZ w1) (mvT hZ wd) (notFace_of_selects (args := #[]) (mvT hZ wsl)) (mvT hZ wsl) (mvT hZ w2) hy (W.back (a0 := a0) hS S hZ wc wz hf hl) qa qc (g := (mkF m pc ls st)) rfl (by rw [hml]; exact hsz) (Steps.refl _) (argsL := as) (rest := rest) (lenOf hsg hln) hst (by show 2 * 0 + _ ≤ _; omega) (hb hby hd) (fun _ _ => ⟨rfl, rfl, hc, hs⟩)
  dsimp only [Pt.U, Pt.locs, Pt.cells, Pt.slots] at X8 l8 y8 z8 st8 hS8
  subst l8 y8 z8
  obtain ⟨u, o, h1, h2⟩ := k v σ' hQ8 p e s m args below meth c T8 _ ⟨hx, hby, hml, hown, hnm, hZ, hrt, hlk⟩ X8 (N.app hF8) hS8
  exact ⟨u, o, st8.trans h1, h2⟩
end Rules2
section Rules3
variable {l : Launch} {Z : State} {n0 : Nat} {B : Bdy} {R : Room} {Q : Option Value → Asn → Prop} {cells slots : Nat} {σ : Asn} {pc pc' : Nat} {ls ls' : Array Slot} {st st' rest : List Value} {a0 : Array Value}
theorem nar_ref {t : FieldType} {v : Value} (hv : v.isRef = true) : narrow t v = v := by rcases ref_cases hv with rfl | ⟨a, rfl⟩ <;> cases t <;> rfl
theorem fit_ref {n : String} {v : Value} (hv : v.isRef = true) : fits (.object n) v = true := by rcases ref_cases hv with rfl | ⟨a, rfl⟩ <;> rfl
theorem fit_refA {t : FieldType} {v : Value} (hv : v.isRef = true) : fits (.array t) v = true := by rcases ref_cases hv with rfl | ⟨a, rfl⟩ <;> rfl
theorem W.drop (τ : Asn) (i : Nat) (hτ : σ.eraseIdx i = τ) (k : W l Z n0 B R Q cells slots τ pc ls st) : W l Z n0 B R Q cells slots σ pc ls st := by
  subst hτ; exact W.conv (fun _ S => S.sub (List.eraseIdx_sublist σ i)) k
theorem Sep.imp {h : Heap} {i : Nat} {a : Addr} {P P' : Cell → Prop} (S : Sep Z n0 h σ) (hi : σ[i]? = some (a, P)) (hP : ∀ c, P c → P' c) : Sep Z n0 h (σ.set i (a, P')) := by
  refine ⟨S.1, ?_, ?_⟩
  · intro x hx
    obtain ⟨j, hj⟩ := List.mem_iff_getElem?.mp hx
    by_cases hij : i = j
    · subst hij
      rw [List.getElem?_set_self (List.getElem?_eq_some_iff.mp hi).1] at hj
      cases hj
      obtain ⟨q1, c, q2, q3⟩ := S.get hi
      exact ⟨q1, c, q2, hP c q3⟩
    · rw [List.getElem?_set_ne hij] at hj
      exact S.2.1 x (List.mem_of_getElem? hj)
  · have e : (σ.set i (a, P')).map (fun x => x.1) = σ.map (fun x => x.1) := by
      apply List.ext_getElem?
      intro j
      simp only [List.getElem?_map]
      by_cases hij : i = j
      · subst hij
        rw [List.getElem?_set_self (List.getElem?_eq_some_iff.mp hi).1, hi]; rfl
      · rw [List.getElem?_set_ne hij]
    rw [e]; exact S.2.2
theorem ObjP.sub {C : String} {fs fs' : List (String × String × String × Value)} {c : Cell} (H : ObjP Z C fs c) (hs : fs'.Sublist fs) : ObjP Z C fs' c := ⟨H.1, fun f hf => H.2.1 f (hs.subset hf), H.2.2.sublist hs⟩
theorem W.fewer (σ' : Asn) (i : Nat) {a : Addr} {C : String} {fs fs' : List (String × String × String × Value)} (hi : σ[i]? = some (a, ObjP Z C fs)) (hs : fs'.Sublist fs) (hσ : σ.set i (a, ObjP Z C fs') = σ') (k : W l Z n0 B R Q cells slots σ' pc ls st) : W l Z n0 B R Q cells slots σ pc ls st := by
  subst hσ; exact W.conv (fun _ S => S.imp hi (fun c H => H.sub hs)) k
theorem flt_at {s : State} {args : Array Value} {own : String} {i : Nat} {b : UInt32} (hZ : Z.Warmed39 s.vm) (w : (Jvm.Cond.constantFloat own i b).before a0 Z = true) : (Jvm.Cond.constantFloat own i b).before args s = true :=
  constantFloat_same (s := Z.setVm s.vm) (s' := s) (args' := args) rfl ((Cond.constantFloat_setVm hZ.alike own i b).trans w)
theorem W.ldcF {i : Nat} {b : UInt32} (hd : decode B.2.2.1 pc = .ok (.ldc i, 2)) (w : (Jvm.Cond.constantFloat B.1 i b).before a0 Z = true) (hp : pc + 2 = pc') (k : W l Z n0 B R Q cells slots σ pc' ls (.float b :: st)) : W l Z n0 B R Q cells slots σ pc ls st := by
  subst hp; exact W.of (fun p e s m args below meth c T locs C X t h => X.ldcFloatC C.1 C.2.2.2.1 (flt_at C.2.2.2.2.2.1 w) (g := mkF m pc ls st) rfl (hb C.2.1 hd) t h) k
theorem W.callP (j : Nat) {y : MethodName} {bytes : ByteArray} {maxL : Nat} {ret : Option FieldType} {rm : Room} {a : Addr} {C : String} {fs : List (String × String × String × Value)} {as : List Value} {Qc : Option Value → Asn → Prop} {i kk : Nat} {sg : MethodDescriptor} (hj : σ[j]? = some (a, ObjP Z C fs)) (hS : Sp l Z n0 y bytes maxL ret rm (.ref a :: as) σ Qc)
    (hd : decode B.2.2.1 pc = .ok (.invokevirtual i, 3)) (w1 : (Jvm.Cond.methodLink B.1 i y).before a0 Z = true) (w2 : (Jvm.Cond.instanceMethod y).before a0 Z = true) (wp : (Jvm.Cond.privateMethod y).before a0 Z = true) (wi : (Jvm.Cond.instantiable y.cls kk).before a0 Z = true) (wz : (Jvm.Cond.initialized y.cls).before a0 Z = true) (wc : (Jvm.Cond.code y bytes maxL ret).before a0 Z = true)
    (hy : y.cls ≠ "java/lang/invoke/MethodHandle" ∧ y.cls ≠ "java/lang/invoke/VarHandle") (hsg : parseMethodDescriptor y.desc = some sg) (hln : as.length = sg.parameters.length) (hst : st = as.reverse ++ .ref a :: rest)
    (hf : rm.frames + 1 ≤ R.frames) (hl : (rest.map fun v => v.category).sum + (maxL + 11) + rm.locals ≤ R.locals) (hc : cells + rm.cells ≤ R.cells) (hs : slots + rm.slots ≤ R.slots) (hsz : ls.size = B.2.2.2.1) (hp : pc + 3 = pc')
    (k : ∀ v σ', Qc v σ' → W l Z n0 B R Q (cells + rm.cells) (slots + rm.slots) σ' pc' ls (v.toList ++ rest)) : W l Z n0 B R Q cells slots σ pc ls st := by
  subst hp
  intro p e s m args below meth c T locs Cc X N S
  obtain ⟨hx, hby, hml, hown, hnm, hZ, hrt, hlk⟩ := Cc
  obtain ⟨-, c1, hc1, H⟩ := S.get hj
  obtain ⟨c2, hc2, hc3⟩ := (exa_out H.1 hc1).cell
  cases hc1.symm.trans hc2
  have hpr : s.PrivateAt y := Cond.privateMethod_at (args := #[]) (mvP hZ wp)
  have hsel : (Jvm.Cond.selects y.cls y y).before args s = true := by
    obtain ⟨ci, ki, i1, i2, -, i4, -⟩ := Cond.instantiable_spec (mvT (args := args) hZ wi)
    exact selects_self_of_private i1 i2 (Bool.or_eq_false_iff.mp i4).1 hpr (mvT hZ w2) hy
  obtain ⟨v, _, ⟨T8, L8, k8, n8⟩, -, X8, ⟨Lc8, ⟨⟨σ', hQ8, hS8⟩, hF8⟩, l8, y8, z8⟩, st8⟩ := X.privateBack hx (y := y) hown (mvT hZ w1) (mvT hZ w2) hsel hpr (mvT hZ wc) hy (W.back (a0 := a0) hS S hZ wc wz hf hl) (g := (mkF m pc ls st)) rfl (by rw [hml]; exact hsz) (Steps.refl _) (a := a) hc1 hc3 (argsL := as) (rest := rest) (lenOf hsg hln) hst (by show 2 * 0 + _ ≤ _; omega) (hb hby hd) (fun _ _ => ⟨rfl, rfl, hc, hs⟩)
  dsimp only [Pt.U, Pt.locs, Pt.cells, Pt.slots] at X8 l8 y8 z8 st8 hS8
  subst l8 y8 z8
  obtain ⟨u, o, h1, h2⟩ := k v σ' hQ8 p e s m args below meth c T8 _ ⟨hx, hby, hml, hown, hnm, hZ, hrt, hlk⟩ X8 (N.app hF8) hS8
  exact ⟨u, o, st8.trans h1, h2⟩
theorem W.callF (j : Nat) {xi y : MethodName} {bytes : ByteArray} {maxL : Nat} {ret : Option FieldType} {rm : Room} {a : Addr} {C : String} {fs : List (String × String × String × Value)} {as : List Value} {Qc : Option Value → Asn → Prop} {i ct : Nat} {sg : MethodDescriptor} (hj : σ[j]? = some (a, ObjP Z C fs)) (hS : Sp l Z n0 y bytes maxL ret rm (.ref a :: as) σ Qc)
    (hd : decode B.2.2.1 pc = .ok (.invokeinterface i ct, 5)) (w1 : (Jvm.Cond.methodLink B.1 i xi).before a0 Z = true) (wd : (Jvm.Cond.declares xi).before a0 Z = true) (wf : (Jvm.Cond.interfaceMethod xi.cls xi.cls xi.name xi.desc).before a0 Z = true) (wsl : (Jvm.Cond.selects C xi y).before a0 Z = true) (w2 : (Jvm.Cond.instanceMethod y).before a0 Z = true)
    (wp : (Jvm.Cond.publicMethod y).before a0 Z = true) (wu : (Jvm.Cond.unhidden C xi.name xi.desc).before a0 Z = true) (wcs : (Jvm.Cond.castable C xi.cls).before a0 Z = true) (wz : (Jvm.Cond.initialized y.cls).before a0 Z = true) (wc : (Jvm.Cond.code y bytes maxL ret).before a0 Z = true)
    (hy : xi.cls ≠ "java/lang/invoke/MethodHandle" ∧ xi.cls ≠ "java/lang/invoke/VarHandle") (hsg : parseMethodDescriptor xi.desc = some sg) (hln : as.length = sg.parameters.length) (hst : st = as.reverse ++ .ref a :: rest)
    (hf : rm.frames + 1 ≤ R.frames) (hl : (rest.map fun v => v.category).sum + (maxL + 11) + rm.locals ≤ R.locals) (hc : cells + rm.cells ≤ R.cells) (hs : slots + rm.slots ≤ R.slots) (hsz : ls.size = B.2.2.2.1) (hp : pc + 5 = pc')
    (k : ∀ v σ', Qc v σ' → W l Z n0 B R Q (cells + rm.cells) (slots + rm.slots) σ' pc' ls (v.toList ++ rest)) : W l Z n0 B R Q cells slots σ pc ls st := by
  subst hp
  intro p e s m args below meth c T locs Cc X N S
  obtain ⟨hx, hby, hml, hown, hnm, hZ, hrt, hlk⟩ := Cc
  obtain ⟨-, c1, hc1, H⟩ := S.get hj
  obtain ⟨cq, kq, qa, qb, qc⟩ := isOf hZ rfl (exa_out H.1 hc1)
  obtain ⟨v, _, ⟨T8, L8, k8, n8⟩, -, X8, ⟨Lc8, ⟨⟨σ', hQ8, hS8⟩, hF8⟩, l8, y8, z8⟩, st8⟩ := X.interfaceBack hx (xi := xi) (y := y) hown (mvT hZ w1) (mvT hZ wd) (mvT hZ wf (by simp [Cond.onTables, Cond.keepsFace, Cond.keeps, Cond.steady, Cond.faceAtom]; exact hy)) (mvT hZ wsl) (mvT hZ w2) (mvT hZ wp) (mvT hZ wu) (mvT hZ wcs) hy (W.back (a0 := a0) hS S hZ wc wz hf hl) qa qb qc (g := (mkF m pc ls st)) rfl (by rw [hml]; exact hsz) (Steps.refl _) (argsL := as) (rest := rest) (lenOf hsg hln) hst (by show 2 * 0 + _ ≤ _; omega) (hb hby hd) (fun _ _ => ⟨rfl, rfl, hc, hs⟩)
  dsimp only [Pt.U, Pt.locs, Pt.cells, Pt.slots] at X8 l8 y8 z8 st8 hS8
  subst l8 y8 z8
  obtain ⟨u, o, h1, h2⟩ := k v σ' hQ8 p e s m args below meth c T8 _ ⟨hx, hby, hml, hown, hnm, hZ, hrt, hlk⟩ X8 (N.app hF8) hS8
  exact ⟨u, o, st8.trans h1, h2⟩
end Rules3
section Rules4
variable {l : Launch} {Z : State} {n0 : Nat} {B : Bdy} {R : Room} {Q : Option Value → Asn → Prop} {cells slots : Nat} {σ : Asn} {pc pc' : Nat} {ls ls' : Array Slot} {st st' rest : List Value} {a0 : Array Value}
theorem Sep.keep1 {h h' : Heap} {j : Nat} {b : Addr} {P P' : Cell → Prop} {c' : Cell} (S : Sep Z n0 h σ) (hj : σ[j]? = some (b, P)) (K : Keep h h' [b]) (hc : h'[b]? = some c') (hP : P' c') : Sep Z n0 h' (σ.set j (b, P')) := by
  obtain ⟨hn, c, hc0, hp⟩ := S.get hj
  refine ⟨S.1.keep K (allS hn all0), ?_, ?_⟩
  · intro x hx
    obtain ⟨i, hi⟩ := List.mem_iff_getElem?.mp hx
    by_cases hij : j = i
    · subst hij
      rw [List.getElem?_set_self (List.getElem?_eq_some_iff.mp hj).1] at hi
      cases hi
      exact ⟨hn, c', hc, hP⟩
    · rw [List.getElem?_set_ne hij] at hi
      obtain ⟨xb, xP⟩ := x
      obtain ⟨hn2, c2, hc2, hp2⟩ := S.get hi
      have hne := S.ne hi hj (Ne.symm hij)
      exact ⟨hn2, c2, K.2.1 _ _ hc2 (ninS hne nin0), hp2⟩
  · have e : (σ.set j (b, P')).map (fun x => x.1) = σ.map (fun x => x.1) := by
      apply List.ext_getElem?
      intro i
      simp only [List.getElem?_map]
      by_cases hij : j = i
      · subst hij
        rw [List.getElem?_set_self (List.getElem?_eq_some_iff.mp hj).1, hj]; rfl
      · rw [List.getElem?_set_ne hij]
    rw [e]; exact S.2.2
theorem ofNat_nn {n : Nat} (h : n < 2 ^ 31) : ¬ Int32.ofNat n < 0 ∧ (Int32.ofNat n).toNatClampNeg = n := by
  have e : (Int32.ofNat n).toInt = n := Int32.toInt_ofNat_of_lt h
  refine ⟨fun q => ?_, ?_⟩
  · have h0 : (0 : Int32).toInt = 0 := by decide
    rw [Int32.lt_iff_toInt_lt, e, h0] at q; omega
  · simp only [Int32.toNatClampNeg, e]; omega
theorem ia_arv {h : Heap} {a : Addr} {c : Cell} {xs : List Int32} (hc : h[a]? = some c) (H : IA Z .int xs c) (hl : xs.length < 2 ^ 31) : Arv Z h a c.cls .int (Int32.ofNat xs.length) (xs.map Value.int) (.int 0) := by
  obtain ⟨H1, H2, H3⟩ := H
  have hs : c.slots.size = xs.length := by rw [← Array.length_toList, H3, List.length_map]
  have hg : ∀ k, k < c.slots.size → ∃ x, (xs.map Value.int).getD k (.int 0) = .int x ∧ c.slots[k]? = some (.int x) := by
    intro k hk
    have hk' : k < xs.length := by omega
    refine ⟨xs[k], by simp [List.getD_eq_getElem?_getD, hk'], ?_⟩
    exact (slot_get H3 (by rw [List.getElem?_map, List.getElem?_eq_getElem hk']; rfl)).1
  refine ⟨c, ⟨hc, H1, H2⟩, rfl, by rw [(ofNat_nn hl).2, hs], (ofNat_nn hl).1, fun k hk => ?_, fun k hk => ?_⟩
  · obtain ⟨x, e1, e2⟩ := hg k hk; rw [e1, e2]
  · obtain ⟨x, e1, -⟩ := hg k hk; rw [e1]; rfl
theorem W.copy1 (σ' : Asn) (i j d : Nat) {idx : Nat} {a b : Addr} {xs ys : List Int32} {x dp : Int32} (hd : decode B.2.2.1 pc = .ok (.invokestatic idx, 3)) (w1 : (Jvm.Cond.methodLink B.1 idx Jvm.Stand.acN).before a0 Z = true) (w2 : (Jvm.Cond.native Jvm.Stand.acN).before a0 Z = true) (w3 : (Jvm.Cond.static Jvm.Stand.acN).before a0 Z = true) (w4 : (Jvm.Cond.initialized "java/lang/System").before a0 Z = true)
    (hi : σ[i]? = some (a, IA Z .int xs)) (hj : σ[j]? = some (b, IA Z .int ys)) (hx : xs[0]? = some x) (h0 : ¬ dp < 0) (hdn : dp.toNatClampNeg = d) (hl : d < ys.length) (hxl : xs.length < 2 ^ 31) (hyl : ys.length < 2 ^ 31) (hσ : σ.set j (b, IA Z .int (ys.set d x)) = σ')
    (hsz : ls.size = B.2.2.2.1) (hf : 1 ≤ R.frames) (hlo : (st.map fun v => v.category).sum + 18 ≤ R.locals) (hp : pc + 3 = pc') (k : W l Z n0 B R Q cells slots σ' pc' ls st) : W l Z n0 B R Q cells slots σ pc ls (.int 1 :: .int dp :: .ref b :: .int 0 :: .ref a :: st) := by
  subst hp hσ
  refine W.of2 (fun p e s m args below meth c T locs ⟨hx', hby, hml, hown, hnm, hZ, hrt, hlk⟩ X N S => ?_) k
  obtain ⟨-, c1, hc1, H1⟩ := S.get hi
  obtain ⟨hb2, c2, hc2, H2⟩ := S.get hj
  have hx0 : 0 < xs.length := (List.getElem?_eq_some_iff.mp hx).1
  obtain ⟨T', h', L, X', e', N', K', V', st'⟩ := RoadKit.cpA X hx' hZ hown w1 w2 w3 w4 rfl (ia_arv hc1 H1 hxl) (ia_arv hc2 H2 hyl) (us := [.int x]) (Or.inl ⟨rfl, rfl⟩) (sp := 0) (dp := dp) (nn := 1) (by decide) h0 (by decide) (by rw [(ofNat_nn hxl).2]; show 0 + 1 ≤ _; omega) (by rw [(ofNat_nn hyl).2, hdn]; show d + 1 ≤ _; omega)
    (by show _ = [(xs.map Value.int).getD (0 + 0) (.int 0)]; rw [List.getD_eq_getElem?_getD, List.getElem?_map, hx]; rfl) (by rw [List.length_map, hdn]; show d + 1 ≤ _; omega) N hb2 (g := mkF m pc ls (.int 1 :: .int dp :: .ref b :: .int 0 :: .ref a :: st)) rfl (by rw [hml]; exact hsz) rfl (hb hby hd) hf (W := (st.map fun v => v.category).sum) (by show 2 * 0 + _ ≤ _; omega) hlo
  refine ⟨T', L, X', N', ?_, st'⟩
  obtain ⟨c3, A3, -, S3, -, H3, -⟩ := V'
  rw [e']
  refine S.keep1 hj K' A3.1 ⟨A3.2.1, A3.2.2, ?_⟩
  have hs3 : c3.slots.size = ys.length := by rw [S3, (ofNat_nn hyl).2]
  apply List.ext_getElem?
  intro q
  rw [Array.getElem?_toList]
  have e5 : (ys.map Value.int).take dp.toNatClampNeg ++ [Value.int x] ++ (ys.map Value.int).drop (dp.toNatClampNeg + (1 : Int32).toNatClampNeg) = (ys.set d x).map Value.int := by
    rw [List.map_set, List.set_eq_take_append_cons_drop, if_pos (by rw [List.length_map]; exact hl), hdn, List.append_assoc]; rfl
  rw [e5] at H3
  by_cases hq : q < c3.slots.size
  · rw [H3 q hq, List.getD_eq_getElem?_getD]
    have : q < ((ys.set d x).map Value.int).length := by rw [List.length_map, List.length_set]; omega
    rw [List.getElem?_eq_getElem this]; rfl
  · rw [Array.getElem?_eq_none (by omega), List.getElem?_eq_none (by rw [List.length_map, List.length_set]; omega)]
end Rules4
theorem wd {L : List Jvm.Cond} {a0 : Array Value} {Z : State} (hw : ∀ d ∈ L, d.before a0 Z = true) (i : Nat) {d : Jvm.Cond} (h : L[i]? = some d) : d.before a0 Z = true := hw d (List.mem_of_getElem? h)
/-- it returns just this, and the heap is known as this -/
abbrev Ret (v : Option Value) (τ : Asn) : Option Value → Asn → Prop := fun v' σ' => v' = v ∧ σ' = τ
abbrev ShTS (Z : State) (v0 : Value) (v1 : Value) (v2 : Value) (v3 : Value) (v4 : Value) (v5 : Value) (v6 : Value) (v7 : Value) : Cell → Prop := ObjP Z "com/example/mendb/mendb/TupleStore" [("com/example/mendb/mendb/TupleStore", "slots", "[I", v0), ("com/example/mendb/mendb/TupleStore", "indexes", "Ljava/util/Map;", v1), ("com/example/mendb/mendb/TupleStore", "indexList", "Ljava/util/List;", v2), ("com/example/mendb/mendb/TupleStore", "removed", "[I", v3), ("com/example/mendb/mendb/TupleStore", "arity", "I", v4), ("com/example/mendb/mendb/TupleStore", "values", "[I", v5), ("com/example/mendb/mendb/TupleStore", "levels", "[J", v6), ("com/example/mendb/mendb/TupleStore", "states", "[B", v7)]
abbrev ShT3 (Z : State) (v0 : Value) : Cell → Prop := ObjP Z "com/example/mendb/mendb/TupleStore" [("com/example/mendb/mendb/TupleStore", "arity", "I", v0)]
abbrev ShHB (Z : State) (v0 : Value) (v1 : Value) (v2 : Value) (v3 : Value) (v4 : Value) (v5 : Value) (v6 : Value) : Cell → Prop := ObjP Z "com/example/mendb/mendb/PlanStep$HeadBinding" [("com/example/mendb/mendb/PlanStep$HeadBinding", "store", "Lcom/example/mendb/mendb/TupleStore;", v0), ("com/example/mendb/mendb/PlanStep$HeadBinding", "columns", "[I", v1), ("com/example/mendb/mendb/PlanStep$HeadBinding", "bindColumns", "[I", v2), ("com/example/mendb/mendb/PlanStep$HeadBinding", "bindSlots", "[I", v3), ("com/example/mendb/mendb/PlanStep$HeadBinding", "testColumns", "[I", v4), ("com/example/mendb/mendb/PlanStep$HeadBinding", "testSlots", "[I", v5), ("com/example/mendb/mendb/PlanStep$HeadBinding", "tuple", "[I", v6)]
abbrev ShHM (Z : State) (v0 : Value) : Cell → Prop := ObjP Z "java/util/HashMap" [("java/util/HashMap", "loadFactor", "F", v0)]
abbrev ShAL (Z : State) (v0 : Value) (v1 : Value) : Cell → Prop := ObjP Z "java/util/ArrayList" [("java/util/AbstractList", "modCount", "I", v0), ("java/util/ArrayList", "elementData", "[Ljava/lang/Object;", v1)]
def own_arr (n x y : Int32) : List Int32 := if n = 0 then [] else if n = 1 then [x] else [x, y]
def own_col (k a b c : Int32) : Int32 := if k = 0 then a else if k = 1 then b else c
def own_b1 (nb v0 x0 : Int32) (sl : List Int32) : List Int32 := if nb < 1 then sl else sl.set v0.toNatClampNeg x0
def own_bind (nb v0 v1 x0 x1 : Int32) (sl : List Int32) : List Int32 := if nb < 2 then own_b1 nb v0 x0 sl else (own_b1 nb v0 x0 sl).set v1.toNatClampNeg x1
def own_at (sl : List Int32) (u : Int32) : Int32 := (sl[u.toNatClampNeg]?).getD 0
def own_p (nt lim c e : Int32) : Int32 := if nt < lim then 1 else if c = e then 1 else 0
def own_and (p q : Int32) : Int32 := if p = 0 then 0 else if q = 0 then 0 else 1
abbrev own_3 (x : Int32) : Prop := x = 0 ∨ x = 1 ∨ x = 2
abbrev own_4 (x : Int32) : Prop := ¬ x < 0 ∧ x.toNatClampNeg < 4
theorem own_m3 (y : Int32) : own_3 ((y &&& 3) % 3) := by
  have h := c_mask y 3 2 (by decide) (by decide)
  have h2 := (c_irem (y &&& 3) 3 3 (by decide)).1 (by rw [h]; omega)
  have h0 : (0 : Int32).toInt = 0 := by decide
  have h1 : (1 : Int32).toInt = 1 := by decide
  have h3 : (2 : Int32).toInt = 2 := by decide
  unfold own_3
  rw [← Int32.toInt_inj, ← Int32.toInt_inj, ← Int32.toInt_inj, h0, h1, h3, h2]; omega
theorem own_m4 (y : Int32) : own_4 (y &&& 3) := by
  have h := c_mask y 3 2 (by decide) (by decide)
  have h0 : (0 : Int32).toInt = 0 := by decide
  refine ⟨fun q => ?_, ?_⟩
  · rw [Int32.lt_iff_toInt_lt, h, h0] at q; omega
  · simp only [Int32.toNatClampNeg, h]; omega
theorem own_cg {k : Int32} (h : own_3 k) (a b c : Int32) : ¬ k < 0 ∧ ([a, b, c] : List Int32)[k.toNatClampNeg]? = some (own_col k a b c) := by
  rcases h with rfl | rfl | rfl
  · exact ⟨by decide, rfl⟩
  · exact ⟨by decide, rfl⟩
  · exact ⟨by decide, rfl⟩
theorem own_b1_len (nb v0 x0 : Int32) (sl : List Int32) : (own_b1 nb v0 x0 sl).length = sl.length := by unfold own_b1; split <;> simp
theorem own_bind_len (nb v0 v1 x0 x1 : Int32) (sl : List Int32) : (own_bind nb v0 v1 x0 x1 sl).length = sl.length := by unfold own_bind; split <;> simp [own_b1_len]
theorem own_get {xs : List Int32} {n : Nat} (h : n < xs.length) : xs[n]? = some ((xs[n]?).getD 0) := by simp [h]
theorem d1_0 : decode prog_127_method_1_code 0 = .ok (.aload_n 0, 1) := by decide +kernel
theorem d1_1 : decode prog_127_method_1_code 1 = .ok (.invokespecial 1, 3) := by decide +kernel
theorem d1_4 : decode prog_127_method_1_code 4 = .ok (.aload_n 0, 1) := by decide +kernel
theorem d1_5 : decode prog_127_method_1_code 5 = .ok (.bipush 32, 2) := by decide +kernel
theorem d1_7 : decode prog_127_method_1_code 7 = .ok (.newarray .int, 2) := by decide +kernel
theorem d1_9 : decode prog_127_method_1_code 9 = .ok (.putfield 9, 3) := by decide +kernel
theorem d1_12 : decode prog_127_method_1_code 12 = .ok (.aload_n 0, 1) := by decide +kernel
theorem d1_13 : decode prog_127_method_1_code 13 = .ok (.new 13, 3) := by decide +kernel
theorem d1_16 : decode prog_127_method_1_code 16 = .ok (.dup, 1) := by decide +kernel
theorem d1_17 : decode prog_127_method_1_code 17 = .ok (.invokespecial 15, 3) := by decide +kernel
theorem d1_20 : decode prog_127_method_1_code 20 = .ok (.putfield 16, 3) := by decide +kernel
theorem d1_23 : decode prog_127_method_1_code 23 = .ok (.aload_n 0, 1) := by decide +kernel
theorem d1_24 : decode prog_127_method_1_code 24 = .ok (.new 20, 3) := by decide +kernel
theorem d1_27 : decode prog_127_method_1_code 27 = .ok (.dup, 1) := by decide +kernel
theorem d1_28 : decode prog_127_method_1_code 28 = .ok (.invokespecial 22, 3) := by decide +kernel
theorem d1_31 : decode prog_127_method_1_code 31 = .ok (.putfield 23, 3) := by decide +kernel
theorem d1_34 : decode prog_127_method_1_code 34 = .ok (.aload_n 0, 1) := by decide +kernel
theorem d1_35 : decode prog_127_method_1_code 35 = .ok (.bipush 16, 2) := by decide +kernel
theorem d1_37 : decode prog_127_method_1_code 37 = .ok (.newarray .int, 2) := by decide +kernel
theorem d1_39 : decode prog_127_method_1_code 39 = .ok (.putfield 27, 3) := by decide +kernel
theorem d1_42 : decode prog_127_method_1_code 42 = .ok (.aload_n 0, 1) := by decide +kernel
theorem d1_43 : decode prog_127_method_1_code 43 = .ok (.iload_n 1, 1) := by decide +kernel
theorem d1_44 : decode prog_127_method_1_code 44 = .ok (.putfield 30, 3) := by decide +kernel
theorem d1_47 : decode prog_127_method_1_code 47 = .ok (.aload_n 0, 1) := by decide +kernel
theorem d1_48 : decode prog_127_method_1_code 48 = .ok (.bipush 16, 2) := by decide +kernel
theorem d1_50 : decode prog_127_method_1_code 50 = .ok (.iload_n 1, 1) := by decide +kernel
theorem d1_51 : decode prog_127_method_1_code 51 = .ok (.imul, 1) := by decide +kernel
theorem d1_52 : decode prog_127_method_1_code 52 = .ok (.newarray .int, 2) := by decide +kernel
theorem d1_54 : decode prog_127_method_1_code 54 = .ok (.putfield 34, 3) := by decide +kernel
theorem d1_57 : decode prog_127_method_1_code 57 = .ok (.aload_n 0, 1) := by decide +kernel
theorem d1_58 : decode prog_127_method_1_code 58 = .ok (.bipush 16, 2) := by decide +kernel
theorem d1_60 : decode prog_127_method_1_code 60 = .ok (.newarray .long, 2) := by decide +kernel
theorem d1_62 : decode prog_127_method_1_code 62 = .ok (.putfield 37, 3) := by decide +kernel
theorem d1_65 : decode prog_127_method_1_code 65 = .ok (.aload_n 0, 1) := by decide +kernel
theorem d1_66 : decode prog_127_method_1_code 66 = .ok (.bipush 16, 2) := by decide +kernel
theorem d1_68 : decode prog_127_method_1_code 68 = .ok (.newarray .byte, 2) := by decide +kernel
theorem d1_70 : decode prog_127_method_1_code 70 = .ok (.putfield 41, 3) := by decide +kernel
theorem d1_73 : decode prog_127_method_1_code 73 = .ok (.return_, 1) := by decide +kernel
theorem d3_0 : decode jdk_69_method_7_code 0 = .ok (.aload_n 0, 1) := by decide +kernel
theorem d3_1 : decode jdk_69_method_7_code 1 = .ok (.invokespecial 43, 3) := by decide +kernel
theorem d3_4 : decode jdk_69_method_7_code 4 = .ok (.aload_n 0, 1) := by decide +kernel
theorem d3_5 : decode jdk_69_method_7_code 5 = .ok (.ldc 92, 2) := by decide +kernel
theorem d3_7 : decode jdk_69_method_7_code 7 = .ok (.putfield 81, 3) := by decide +kernel
theorem d3_10 : decode jdk_69_method_7_code 10 = .ok (.return_, 1) := by decide +kernel
theorem d4_0 : decode jdk_71_method_1_code 0 = .ok (.aload_n 0, 1) := by decide +kernel
theorem d4_1 : decode jdk_71_method_1_code 1 = .ok (.invokespecial 1, 3) := by decide +kernel
theorem d4_4 : decode jdk_71_method_1_code 4 = .ok (.return_, 1) := by decide +kernel
theorem d5_0 : decode jdk_38_method_2_code 0 = .ok (.aload_n 0, 1) := by decide +kernel
theorem d5_1 : decode jdk_38_method_2_code 1 = .ok (.invokespecial 1, 3) := by decide +kernel
theorem d5_4 : decode jdk_38_method_2_code 4 = .ok (.aload_n 0, 1) := by decide +kernel
theorem d5_5 : decode jdk_38_method_2_code 5 = .ok (.getstatic 39, 3) := by decide +kernel
theorem d5_8 : decode jdk_38_method_2_code 8 = .ok (.putfield 9, 3) := by decide +kernel
theorem d5_11 : decode jdk_38_method_2_code 11 = .ok (.return_, 1) := by decide +kernel
theorem d6_0 : decode jdk_39_method_1_code 0 = .ok (.aload_n 0, 1) := by decide +kernel
theorem d6_1 : decode jdk_39_method_1_code 1 = .ok (.invokespecial 1, 3) := by decide +kernel
theorem d6_4 : decode jdk_39_method_1_code 4 = .ok (.aload_n 0, 1) := by decide +kernel
theorem d6_5 : decode jdk_39_method_1_code 5 = .ok (.iconst 0, 1) := by decide +kernel
theorem d6_6 : decode jdk_39_method_1_code 6 = .ok (.putfield 7, 3) := by decide +kernel
theorem d6_9 : decode jdk_39_method_1_code 9 = .ok (.return_, 1) := by decide +kernel
theorem d7_0 : decode jdk_22_method_1_code 0 = .ok (.aload_n 0, 1) := by decide +kernel
theorem d7_1 : decode jdk_22_method_1_code 1 = .ok (.invokespecial 1, 3) := by decide +kernel
theorem d7_4 : decode jdk_22_method_1_code 4 = .ok (.return_, 1) := by decide +kernel
theorem d8_0 : decode method_2_code 0 = .ok (.iload_n 0, 1) := by decide +kernel
theorem d8_1 : decode method_2_code 1 = .ok (.ifCond .ne 7, 3) := by decide +kernel
theorem d8_4 : decode method_2_code 4 = .ok (.iconst 0, 1) := by decide +kernel
theorem d8_5 : decode method_2_code 5 = .ok (.newarray .int, 2) := by decide +kernel
theorem d8_7 : decode method_2_code 7 = .ok (.areturn, 1) := by decide +kernel
theorem d8_8 : decode method_2_code 8 = .ok (.iload_n 0, 1) := by decide +kernel
theorem d8_9 : decode method_2_code 9 = .ok (.iconst 1, 1) := by decide +kernel
theorem d8_10 : decode method_2_code 10 = .ok (.if_icmp .ne 11, 3) := by decide +kernel
theorem d8_13 : decode method_2_code 13 = .ok (.iconst 1, 1) := by decide +kernel
theorem d8_14 : decode method_2_code 14 = .ok (.newarray .int, 2) := by decide +kernel
theorem d8_16 : decode method_2_code 16 = .ok (.dup, 1) := by decide +kernel
theorem d8_17 : decode method_2_code 17 = .ok (.iconst 0, 1) := by decide +kernel
theorem d8_18 : decode method_2_code 18 = .ok (.iload_n 1, 1) := by decide +kernel
theorem d8_19 : decode method_2_code 19 = .ok (.iastore, 1) := by decide +kernel
theorem d8_20 : decode method_2_code 20 = .ok (.areturn, 1) := by decide +kernel
theorem d8_21 : decode method_2_code 21 = .ok (.iconst 2, 1) := by decide +kernel
theorem d8_22 : decode method_2_code 22 = .ok (.newarray .int, 2) := by decide +kernel
theorem d8_24 : decode method_2_code 24 = .ok (.dup, 1) := by decide +kernel
theorem d8_25 : decode method_2_code 25 = .ok (.iconst 0, 1) := by decide +kernel
theorem d8_26 : decode method_2_code 26 = .ok (.iload_n 1, 1) := by decide +kernel
theorem d8_27 : decode method_2_code 27 = .ok (.iastore, 1) := by decide +kernel
theorem d8_28 : decode method_2_code 28 = .ok (.dup, 1) := by decide +kernel
theorem d8_29 : decode method_2_code 29 = .ok (.iconst 1, 1) := by decide +kernel
theorem d8_30 : decode method_2_code 30 = .ok (.iload_n 2, 1) := by decide +kernel
theorem d8_31 : decode method_2_code 31 = .ok (.iastore, 1) := by decide +kernel
theorem d8_32 : decode method_2_code 32 = .ok (.areturn, 1) := by decide +kernel
theorem d9_0 : decode prog_80_method_1_code 0 = .ok (.aload_n 0, 1) := by decide +kernel
theorem d9_1 : decode prog_80_method_1_code 1 = .ok (.invokespecial 1, 3) := by decide +kernel
theorem d9_4 : decode prog_80_method_1_code 4 = .ok (.aload_n 0, 1) := by decide +kernel
theorem d9_5 : decode prog_80_method_1_code 5 = .ok (.aload_n 1, 1) := by decide +kernel
theorem d9_6 : decode prog_80_method_1_code 6 = .ok (.putfield 7, 3) := by decide +kernel
theorem d9_9 : decode prog_80_method_1_code 9 = .ok (.aload_n 0, 1) := by decide +kernel
theorem d9_10 : decode prog_80_method_1_code 10 = .ok (.aload_n 2, 1) := by decide +kernel
theorem d9_11 : decode prog_80_method_1_code 11 = .ok (.putfield 13, 3) := by decide +kernel
theorem d9_14 : decode prog_80_method_1_code 14 = .ok (.aload_n 0, 1) := by decide +kernel
theorem d9_15 : decode prog_80_method_1_code 15 = .ok (.aload_n 3, 1) := by decide +kernel
theorem d9_16 : decode prog_80_method_1_code 16 = .ok (.putfield 17, 3) := by decide +kernel
theorem d9_19 : decode prog_80_method_1_code 19 = .ok (.aload_n 0, 1) := by decide +kernel
theorem d9_20 : decode prog_80_method_1_code 20 = .ok (.aload 4, 2) := by decide +kernel
theorem d9_22 : decode prog_80_method_1_code 22 = .ok (.putfield 20, 3) := by decide +kernel
theorem d9_25 : decode prog_80_method_1_code 25 = .ok (.aload_n 0, 1) := by decide +kernel
theorem d9_26 : decode prog_80_method_1_code 26 = .ok (.aload 5, 2) := by decide +kernel
theorem d9_28 : decode prog_80_method_1_code 28 = .ok (.putfield 23, 3) := by decide +kernel
theorem d9_31 : decode prog_80_method_1_code 31 = .ok (.aload_n 0, 1) := by decide +kernel
theorem d9_32 : decode prog_80_method_1_code 32 = .ok (.aload 6, 2) := by decide +kernel
theorem d9_34 : decode prog_80_method_1_code 34 = .ok (.putfield 26, 3) := by decide +kernel
theorem d9_37 : decode prog_80_method_1_code 37 = .ok (.aload_n 0, 1) := by decide +kernel
theorem d9_38 : decode prog_80_method_1_code 38 = .ok (.aload_n 1, 1) := by decide +kernel
theorem d9_39 : decode prog_80_method_1_code 39 = .ok (.invokevirtual 29, 3) := by decide +kernel
theorem d9_42 : decode prog_80_method_1_code 42 = .ok (.newarray .int, 2) := by decide +kernel
theorem d9_44 : decode prog_80_method_1_code 44 = .ok (.putfield 35, 3) := by decide +kernel
theorem d9_47 : decode prog_80_method_1_code 47 = .ok (.return_, 1) := by decide +kernel
theorem d10_0 : decode prog_83_method_1_code 0 = .ok (.aload_n 0, 1) := by decide +kernel
theorem d10_1 : decode prog_83_method_1_code 1 = .ok (.invokespecial 1, 3) := by decide +kernel
theorem d10_4 : decode prog_83_method_1_code 4 = .ok (.return_, 1) := by decide +kernel
theorem d11_0 : decode prog_71_method_1_code 0 = .ok (.aload_n 0, 1) := by decide +kernel
theorem d11_1 : decode prog_71_method_1_code 1 = .ok (.invokespecial 1, 3) := by decide +kernel
theorem d11_4 : decode prog_71_method_1_code 4 = .ok (.return_, 1) := by decide +kernel
theorem d12_0 : decode prog_127_method_2_code 0 = .ok (.aload_n 0, 1) := by decide +kernel
theorem d12_1 : decode prog_127_method_2_code 1 = .ok (.getfield 30, 3) := by decide +kernel
theorem d12_4 : decode prog_127_method_2_code 4 = .ok (.ireturn, 1) := by decide +kernel
theorem d13_0 : decode prog_80_method_3_code 0 = .ok (.aload_n 0, 1) := by decide +kernel
theorem d13_1 : decode prog_80_method_3_code 1 = .ok (.getfield 13, 3) := by decide +kernel
theorem d13_4 : decode prog_80_method_3_code 4 = .ok (.astore_n 2, 1) := by decide +kernel
theorem d13_5 : decode prog_80_method_3_code 5 = .ok (.aload_n 2, 1) := by decide +kernel
theorem d13_6 : decode prog_80_method_3_code 6 = .ok (.arraylength, 1) := by decide +kernel
theorem d13_7 : decode prog_80_method_3_code 7 = .ok (.istore_n 3, 1) := by decide +kernel
theorem d13_8 : decode prog_80_method_3_code 8 = .ok (.iconst 0, 1) := by decide +kernel
theorem d13_9 : decode prog_80_method_3_code 9 = .ok (.istore 4, 2) := by decide +kernel
theorem d13_11 : decode prog_80_method_3_code 11 = .ok (.iload 4, 2) := by decide +kernel
theorem d13_13 : decode prog_80_method_3_code 13 = .ok (.iload_n 3, 1) := by decide +kernel
theorem d13_14 : decode prog_80_method_3_code 14 = .ok (.if_icmp .ge 26, 3) := by decide +kernel
theorem d13_17 : decode prog_80_method_3_code 17 = .ok (.aload_n 2, 1) := by decide +kernel
theorem d13_18 : decode prog_80_method_3_code 18 = .ok (.iload 4, 2) := by decide +kernel
theorem d13_20 : decode prog_80_method_3_code 20 = .ok (.iaload, 1) := by decide +kernel
theorem d13_21 : decode prog_80_method_3_code 21 = .ok (.istore 5, 2) := by decide +kernel
theorem d13_23 : decode prog_80_method_3_code 23 = .ok (.aload_n 0, 1) := by decide +kernel
theorem d13_24 : decode prog_80_method_3_code 24 = .ok (.getfield 35, 3) := by decide +kernel
theorem d13_27 : decode prog_80_method_3_code 27 = .ok (.iload 5, 2) := by decide +kernel
theorem d13_29 : decode prog_80_method_3_code 29 = .ok (.aload_n 1, 1) := by decide +kernel
theorem d13_30 : decode prog_80_method_3_code 30 = .ok (.iload 5, 2) := by decide +kernel
theorem d13_32 : decode prog_80_method_3_code 32 = .ok (.iaload, 1) := by decide +kernel
theorem d13_33 : decode prog_80_method_3_code 33 = .ok (.iastore, 1) := by decide +kernel
theorem d13_34 : decode prog_80_method_3_code 34 = .ok (.iinc 4 1, 3) := by decide +kernel
theorem d13_37 : decode prog_80_method_3_code 37 = .ok (.goto (-26), 3) := by decide +kernel
theorem d13_40 : decode prog_80_method_3_code 40 = .ok (.return_, 1) := by decide +kernel
theorem d14_0 : decode prog_80_method_4_code 0 = .ok (.iconst 0, 1) := by decide +kernel
theorem d14_1 : decode prog_80_method_4_code 1 = .ok (.istore_n 2, 1) := by decide +kernel
theorem d14_2 : decode prog_80_method_4_code 2 = .ok (.iload_n 2, 1) := by decide +kernel
theorem d14_3 : decode prog_80_method_4_code 3 = .ok (.aload_n 0, 1) := by decide +kernel
theorem d14_4 : decode prog_80_method_4_code 4 = .ok (.getfield 17, 3) := by decide +kernel
theorem d14_7 : decode prog_80_method_4_code 7 = .ok (.arraylength, 1) := by decide +kernel
theorem d14_8 : decode prog_80_method_4_code 8 = .ok (.if_icmp .ge 28, 3) := by decide +kernel
theorem d14_11 : decode prog_80_method_4_code 11 = .ok (.aload_n 1, 1) := by decide +kernel
theorem d14_12 : decode prog_80_method_4_code 12 = .ok (.aload_n 0, 1) := by decide +kernel
theorem d14_13 : decode prog_80_method_4_code 13 = .ok (.getfield 20, 3) := by decide +kernel
theorem d14_16 : decode prog_80_method_4_code 16 = .ok (.iload_n 2, 1) := by decide +kernel
theorem d14_17 : decode prog_80_method_4_code 17 = .ok (.iaload, 1) := by decide +kernel
theorem d14_18 : decode prog_80_method_4_code 18 = .ok (.aload_n 0, 1) := by decide +kernel
theorem d14_19 : decode prog_80_method_4_code 19 = .ok (.getfield 35, 3) := by decide +kernel
theorem d14_22 : decode prog_80_method_4_code 22 = .ok (.aload_n 0, 1) := by decide +kernel
theorem d14_23 : decode prog_80_method_4_code 23 = .ok (.getfield 17, 3) := by decide +kernel
theorem d14_26 : decode prog_80_method_4_code 26 = .ok (.iload_n 2, 1) := by decide +kernel
theorem d14_27 : decode prog_80_method_4_code 27 = .ok (.iaload, 1) := by decide +kernel
theorem d14_28 : decode prog_80_method_4_code 28 = .ok (.iaload, 1) := by decide +kernel
theorem d14_29 : decode prog_80_method_4_code 29 = .ok (.iastore, 1) := by decide +kernel
theorem d14_30 : decode prog_80_method_4_code 30 = .ok (.iinc 2 1, 3) := by decide +kernel
theorem d14_33 : decode prog_80_method_4_code 33 = .ok (.goto (-31), 3) := by decide +kernel
theorem d14_36 : decode prog_80_method_4_code 36 = .ok (.iconst 0, 1) := by decide +kernel
theorem d14_37 : decode prog_80_method_4_code 37 = .ok (.istore_n 2, 1) := by decide +kernel
theorem d14_38 : decode prog_80_method_4_code 38 = .ok (.iload_n 2, 1) := by decide +kernel
theorem d14_39 : decode prog_80_method_4_code 39 = .ok (.aload_n 0, 1) := by decide +kernel
theorem d14_40 : decode prog_80_method_4_code 40 = .ok (.getfield 23, 3) := by decide +kernel
theorem d14_43 : decode prog_80_method_4_code 43 = .ok (.arraylength, 1) := by decide +kernel
theorem d14_44 : decode prog_80_method_4_code 44 = .ok (.if_icmp .ge 33, 3) := by decide +kernel
theorem d14_47 : decode prog_80_method_4_code 47 = .ok (.aload_n 0, 1) := by decide +kernel
theorem d14_48 : decode prog_80_method_4_code 48 = .ok (.getfield 35, 3) := by decide +kernel
theorem d14_51 : decode prog_80_method_4_code 51 = .ok (.aload_n 0, 1) := by decide +kernel
theorem d14_52 : decode prog_80_method_4_code 52 = .ok (.getfield 23, 3) := by decide +kernel
theorem d14_55 : decode prog_80_method_4_code 55 = .ok (.iload_n 2, 1) := by decide +kernel
theorem d14_56 : decode prog_80_method_4_code 56 = .ok (.iaload, 1) := by decide +kernel
theorem d14_57 : decode prog_80_method_4_code 57 = .ok (.iaload, 1) := by decide +kernel
theorem d14_58 : decode prog_80_method_4_code 58 = .ok (.aload_n 1, 1) := by decide +kernel
theorem d14_59 : decode prog_80_method_4_code 59 = .ok (.aload_n 0, 1) := by decide +kernel
theorem d14_60 : decode prog_80_method_4_code 60 = .ok (.getfield 26, 3) := by decide +kernel
theorem d14_63 : decode prog_80_method_4_code 63 = .ok (.iload_n 2, 1) := by decide +kernel
theorem d14_64 : decode prog_80_method_4_code 64 = .ok (.iaload, 1) := by decide +kernel
theorem d14_65 : decode prog_80_method_4_code 65 = .ok (.iaload, 1) := by decide +kernel
theorem d14_66 : decode prog_80_method_4_code 66 = .ok (.if_icmp .eq 5, 3) := by decide +kernel
theorem d14_69 : decode prog_80_method_4_code 69 = .ok (.iconst 0, 1) := by decide +kernel
theorem d14_70 : decode prog_80_method_4_code 70 = .ok (.ireturn, 1) := by decide +kernel
theorem d14_71 : decode prog_80_method_4_code 71 = .ok (.iinc 2 1, 3) := by decide +kernel
theorem d14_74 : decode prog_80_method_4_code 74 = .ok (.goto (-36), 3) := by decide +kernel
theorem d14_77 : decode prog_80_method_4_code 77 = .ok (.iconst 1, 1) := by decide +kernel
theorem d14_78 : decode prog_80_method_4_code 78 = .ok (.ireturn, 1) := by decide +kernel
theorem d15_0 : decode method_3_code 0 = .ok (.iload_n 0, 1) := by decide +kernel
theorem d15_1 : decode method_3_code 1 = .ok (.ifCond .ne 5, 3) := by decide +kernel
theorem d15_4 : decode method_3_code 4 = .ok (.iload_n 1, 1) := by decide +kernel
theorem d15_5 : decode method_3_code 5 = .ok (.ireturn, 1) := by decide +kernel
theorem d15_6 : decode method_3_code 6 = .ok (.iload_n 0, 1) := by decide +kernel
theorem d15_7 : decode method_3_code 7 = .ok (.iconst 1, 1) := by decide +kernel
theorem d15_8 : decode method_3_code 8 = .ok (.if_icmp .ne 5, 3) := by decide +kernel
theorem d15_11 : decode method_3_code 11 = .ok (.iload_n 2, 1) := by decide +kernel
theorem d15_12 : decode method_3_code 12 = .ok (.ireturn, 1) := by decide +kernel
theorem d15_13 : decode method_3_code 13 = .ok (.iload_n 3, 1) := by decide +kernel
theorem d15_14 : decode method_3_code 14 = .ok (.ireturn, 1) := by decide +kernel
theorem pd0 : parseMethodDescriptor "()V" = some ⟨[], none⟩ := by decide +kernel
theorem pd1 : parseMethodDescriptor "()I" = some ⟨[], some .int⟩ := by decide +kernel
theorem pd2 : parseMethodDescriptor "(I)V" = some ⟨[.int], none⟩ := by decide +kernel
theorem pd3 : parseMethodDescriptor "(III)[I" = some ⟨[.int, .int, .int], some (.array .int)⟩ := by decide +kernel
theorem pd4 : parseMethodDescriptor "(Lcom/example/mendb/mendb/TupleStore;[I[I[I[I[I)V" = some ⟨[(.object "com/example/mendb/mendb/TupleStore"), (.array .int), (.array .int), (.array .int), (.array .int), (.array .int)], none⟩ := by decide +kernel
theorem pd5 : parseMethodDescriptor "([I)V" = some ⟨[(.array .int)], none⟩ := by decide +kernel
theorem pd6 : parseMethodDescriptor "([I)Z" = some ⟨[(.array .int)], some .boolean⟩ := by decide +kernel
theorem pd7 : parseMethodDescriptor "(IIII)I" = some ⟨[.int, .int, .int, .int], some .int⟩ := by decide +kernel
theorem pn_mAbsMap : plainFor (⟨"java/util/AbstractMap", "<init>", "()V"⟩ : MethodName) = true := by first | (refine plainFor_of_name ?_; simp [plainName, overriddenIn]; done) | (refine plainFor_of_name ?_; decide +kernel) | decide +kernel
set_option maxRecDepth 65536 in
set_option maxHeartbeats 40000000 in
theorem mAbsMap (l : Launch) (Z : State) (n0 : Nat) (a0 : Array Value) (hw : ∀ d ∈ tables_1, d.before a0 Z = true) (σ : Asn) (h : Addr) : Sp l Z n0 (⟨"java/util/AbstractMap", "<init>", "()V"⟩ : MethodName) jdk_71_method_1_code 1 none ({ frames := 1, cells := 0, slots := 0, locals := 12 } : Room) [(.ref h)] (σ) (Ret none σ) := by
  refine Sp.of (ls := #[.val (.ref h)]) pn_mAbsMap (fun m => by first | (simp [entryFrame, mkF, argsToLocals, Value.category]; done) | rfl) ?_
  show W _ _ _ _ _ _ 0 0 (σ) 0 #[.val (.ref h)] []
  refine W.aloadN d4_0 (pc' := 1) rfl rfl rfl ?_
  refine W.initO d4_1 (wd hw 24 rfl) (wd hw 7 rfl) (wd hw 8 rfl) rfl (Nat.le_of_ble_eq_true rfl) (Nat.le_of_ble_eq_true rfl) (pc' := 4) rfl ?_
  exact W.retV d4_4 rfl (by decide) (by decide) ⟨rfl, rfl⟩
theorem pn_mHM : plainFor (⟨"java/util/HashMap", "<init>", "()V"⟩ : MethodName) = true := by first | (refine plainFor_of_name ?_; simp [plainName, overriddenIn]; done) | (refine plainFor_of_name ?_; decide +kernel) | decide +kernel
set_option maxRecDepth 65536 in
set_option maxHeartbeats 40000000 in
theorem mHM (l : Launch) (Z : State) (n0 : Nat) (a0 : Array Value) (hw : ∀ d ∈ tables_1, d.before a0 Z = true) (F : Asn) (h : Addr) : Sp l Z n0 (⟨"java/util/HashMap", "<init>", "()V"⟩ : MethodName) jdk_69_method_7_code 1 none ({ frames := 2, cells := 0, slots := 0, locals := 24 } : Room) [(.ref h)] ((h, (ShHM Z (.float (0 : UInt32)))) :: F) (Ret none ((h, (ShHM Z (.float (1061158912 : UInt32)))) :: F)) := by
  refine Sp.of (ls := #[.val (.ref h)]) pn_mHM (fun m => by first | (simp [entryFrame, mkF, argsToLocals, Value.category]; done) | rfl) ?_
  show W _ _ _ _ _ _ 0 0 ((h, (ShHM Z (.float (0 : UInt32)))) :: F) 0 #[.val (.ref h)] []
  refine W.aloadN d3_0 (pc' := 1) rfl rfl rfl ?_
  refine W.callI (mAbsMap l Z n0 a0 hw ((h, (ShHM Z (.float (0 : UInt32)))) :: F) h) d3_1 rfl (wd hw 18 rfl) (wd hw 19 rfl) (wd hw 22 rfl) (wd hw 23 rfl) (by decide) pd0 rfl rfl (Nat.le_of_ble_eq_true rfl) (Nat.le_of_ble_eq_true rfl) (Nat.le_of_ble_eq_true rfl) (Nat.le_of_ble_eq_true rfl) rfl (pc' := 4) rfl ?_
  intro v9 s9 q9
  rw [q9.1, q9.2]
  clear q9 v9 s9
  show W _ _ _ _ _ _ 0 0 ((h, (ShHM Z (.float (0 : UInt32)))) :: F) 4 #[.val (.ref h)] []
  refine W.aloadN d3_4 (pc' := 5) rfl rfl rfl ?_
  refine W.ldcF d3_5 (wd hw 25 rfl) (pc' := 7) rfl ?_
  refine W.putF ((h, (ShHM Z (.float (1061158912 : UInt32)))) :: F) 0 0 d3_7 (host := "") (Or.inl (wd hw 26 rfl)) Via.refl (Or.inr ⟨(wd hw 27 rfl), rfl, rfl⟩) (wd hw 13 rfl) (ty := .float) (by decide) rfl rfl rfl rfl rfl (pc' := 10) rfl ?_
  exact W.retV d3_10 rfl (by decide) (by decide) ⟨rfl, rfl⟩
theorem pn_mAbsCol : plainFor (⟨"java/util/AbstractCollection", "<init>", "()V"⟩ : MethodName) = true := by first | (refine plainFor_of_name ?_; simp [plainName, overriddenIn]; done) | (refine plainFor_of_name ?_; decide +kernel) | decide +kernel
set_option maxRecDepth 65536 in
set_option maxHeartbeats 40000000 in
theorem mAbsCol (l : Launch) (Z : State) (n0 : Nat) (a0 : Array Value) (hw : ∀ d ∈ tables_1, d.before a0 Z = true) (σ : Asn) (h : Addr) : Sp l Z n0 (⟨"java/util/AbstractCollection", "<init>", "()V"⟩ : MethodName) jdk_22_method_1_code 1 none ({ frames := 1, cells := 0, slots := 0, locals := 12 } : Room) [(.ref h)] (σ) (Ret none σ) := by
  refine Sp.of (ls := #[.val (.ref h)]) pn_mAbsCol (fun m => by first | (simp [entryFrame, mkF, argsToLocals, Value.category]; done) | rfl) ?_
  show W _ _ _ _ _ _ 0 0 (σ) 0 #[.val (.ref h)] []
  refine W.aloadN d7_0 (pc' := 1) rfl rfl rfl ?_
  refine W.initO d7_1 (wd hw 48 rfl) (wd hw 7 rfl) (wd hw 8 rfl) rfl (Nat.le_of_ble_eq_true rfl) (Nat.le_of_ble_eq_true rfl) (pc' := 4) rfl ?_
  exact W.retV d7_4 rfl (by decide) (by decide) ⟨rfl, rfl⟩
theorem pn_mAbsList : plainFor (⟨"java/util/AbstractList", "<init>", "()V"⟩ : MethodName) = true := by first | (refine plainFor_of_name ?_; simp [plainName, overriddenIn]; done) | (refine plainFor_of_name ?_; decide +kernel) | decide +kernel
set_option maxRecDepth 65536 in
set_option maxHeartbeats 40000000 in
theorem mAbsList (l : Launch) (Z : State) (n0 : Nat) (a0 : Array Value) (hw : ∀ d ∈ tables_1, d.before a0 Z = true) (F : Asn) (h : Addr) : Sp l Z n0 (⟨"java/util/AbstractList", "<init>", "()V"⟩ : MethodName) jdk_39_method_1_code 1 none ({ frames := 2, cells := 0, slots := 0, locals := 24 } : Room) [(.ref h)] ((h, (ShAL Z (.int (0 : Int32)) .null)) :: F) (Ret none ((h, (ShAL Z (.int (0 : Int32)) .null)) :: F)) := by
  refine Sp.of (ls := #[.val (.ref h)]) pn_mAbsList (fun m => by first | (simp [entryFrame, mkF, argsToLocals, Value.category]; done) | rfl) ?_
  show W _ _ _ _ _ _ 0 0 ((h, (ShAL Z (.int (0 : Int32)) .null)) :: F) 0 #[.val (.ref h)] []
  refine W.aloadN d6_0 (pc' := 1) rfl rfl rfl ?_
  refine W.callI (mAbsCol l Z n0 a0 hw ((h, (ShAL Z (.int (0 : Int32)) .null)) :: F) h) d6_1 rfl (wd hw 42 rfl) (wd hw 43 rfl) (wd hw 46 rfl) (wd hw 47 rfl) (by decide) pd0 rfl rfl (Nat.le_of_ble_eq_true rfl) (Nat.le_of_ble_eq_true rfl) (Nat.le_of_ble_eq_true rfl) (Nat.le_of_ble_eq_true rfl) rfl (pc' := 4) rfl ?_
  intro v9 s9 q9
  rw [q9.1, q9.2]
  clear q9 v9 s9
  show W _ _ _ _ _ _ 0 0 ((h, (ShAL Z (.int (0 : Int32)) .null)) :: F) 4 #[.val (.ref h)] []
  refine W.aloadN d6_4 (pc' := 5) rfl rfl rfl ?_
  refine W.iconst (0 : Int32) d6_5 (pc' := 6) rfl rfl ?_
  refine W.putF ((h, (ShAL Z (.int (0 : Int32)) .null)) :: F) 0 0 d6_6 (host := "") (Or.inl (wd hw 49 rfl)) Via.refl (Or.inl (wd hw 50 rfl)) (wd hw 31 rfl) (ty := .int) (by decide) rfl rfl rfl rfl rfl (pc' := 9) rfl ?_
  exact W.retV d6_9 rfl (by decide) (by decide) ⟨rfl, rfl⟩
theorem pn_mAL : plainFor (⟨"java/util/ArrayList", "<init>", "()V"⟩ : MethodName) = true := by first | (refine plainFor_of_name ?_; simp [plainName, overriddenIn]; done) | (refine plainFor_of_name ?_; decide +kernel) | decide +kernel
set_option maxRecDepth 65536 in
set_option maxHeartbeats 40000000 in
theorem mAL (l : Launch) (Z : State) (n0 : Nat) (a0 : Array Value) (hw : ∀ d ∈ tables_1, d.before a0 Z = true) (dv : Value) (hdr : dv.isRef = true) (hdv : Sta Z Z.heap "java/util/ArrayList" "DEFAULTCAPACITY_EMPTY_ELEMENTDATA" "[Ljava/lang/Object;" dv) (F : Asn) (h : Addr) : Sp l Z n0 (⟨"java/util/ArrayList", "<init>", "()V"⟩ : MethodName) jdk_38_method_2_code 1 none ({ frames := 3, cells := 0, slots := 0, locals := 36 } : Room) [(.ref h)] ((h, (ShAL Z (.int (0 : Int32)) .null)) :: F) (Ret none ((h, (ShAL Z (.int (0 : Int32)) dv)) :: F)) := by
  refine Sp.of (ls := #[.val (.ref h)]) pn_mAL (fun m => by first | (simp [entryFrame, mkF, argsToLocals, Value.category]; done) | rfl) ?_
  show W _ _ _ _ _ _ 0 0 ((h, (ShAL Z (.int (0 : Int32)) .null)) :: F) 0 #[.val (.ref h)] []
  refine W.aloadN d5_0 (pc' := 1) rfl rfl rfl ?_
  refine W.callI (mAbsList l Z n0 a0 hw F h) d5_1 rfl (wd hw 36 rfl) (wd hw 37 rfl) (wd hw 40 rfl) (wd hw 41 rfl) (by decide) pd0 rfl rfl (Nat.le_of_ble_eq_true rfl) (Nat.le_of_ble_eq_true rfl) (Nat.le_of_ble_eq_true rfl) (Nat.le_of_ble_eq_true rfl) rfl (pc' := 4) rfl ?_
  intro v9 s9 q9
  rw [q9.1, q9.2]
  clear q9 v9 s9
  show W _ _ _ _ _ _ 0 0 ((h, (ShAL Z (.int (0 : Int32)) .null)) :: F) 4 #[.val (.ref h)] []
  refine W.aloadN d5_4 (pc' := 5) rfl rfl rfl ?_
  refine W.getS d5_5 (wd hw 51 rfl) Via.refl hdv (pc' := 8) rfl ?_
  refine W.putF ((h, (ShAL Z (.int (0 : Int32)) dv)) :: F) 0 1 d5_8 (host := "") (Or.inl (wd hw 52 rfl)) Via.refl (Or.inl (wd hw 53 rfl)) (wd hw 31 rfl) (ty := (.array (.object "java/lang/Object"))) (by decide) (nar_ref hdr) (fit_refA hdr) rfl rfl rfl (pc' := 11) rfl ?_
  exact W.retV d5_11 rfl (by decide) (by decide) ⟨rfl, rfl⟩
theorem pn_mTS : plainFor (⟨"com/example/mendb/mendb/TupleStore", "<init>", "(I)V"⟩ : MethodName) = true := by first | (refine plainFor_of_name ?_; simp [plainName, overriddenIn]; done) | (refine plainFor_of_name ?_; decide +kernel) | decide +kernel
set_option maxRecDepth 65536 in
set_option maxHeartbeats 40000000 in
theorem mTS (l : Launch) (Z : State) (n0 : Nat) (a0 : Array Value) (hw : ∀ d ∈ tables_1, d.before a0 Z = true) (dv : Value) (hdr : dv.isRef = true) (hdv : Sta Z Z.heap "java/util/ArrayList" "DEFAULTCAPACITY_EMPTY_ELEMENTDATA" "[Ljava/lang/Object;" dv) (F : Asn) (t : Addr) : Sp l Z n0 (⟨"com/example/mendb/mendb/TupleStore", "<init>", "(I)V"⟩ : MethodName) prog_127_method_1_code 2 none ({ frames := 4, cells := 7, slots := 139, locals := 50 } : Room) [(.ref t), (.int (3 : Int32))] ((t, (ShTS Z .null .null .null .null (.int (0 : Int32)) .null .null .null)) :: F) (Ret none ((t, (ShT3 Z (.int (3 : Int32)))) :: F)) := by
  refine Sp.of (ls := #[.val (.ref t), .val (.int (3 : Int32))]) pn_mTS (fun m => by first | (simp [entryFrame, mkF, argsToLocals, Value.category]; done) | rfl) ?_
  show W _ _ _ _ _ _ 0 0 ((t, (ShTS Z .null .null .null .null (.int (0 : Int32)) .null .null .null)) :: F) 0 #[.val (.ref t), .val (.int (3 : Int32))] []
  refine W.aloadN d1_0 (pc' := 1) rfl rfl rfl ?_
  refine W.initO d1_1 (wd hw 6 rfl) (wd hw 7 rfl) (wd hw 8 rfl) rfl (Nat.le_of_ble_eq_true rfl) (Nat.le_of_ble_eq_true rfl) (pc' := 4) rfl ?_
  refine W.aloadN d1_4 (pc' := 5) rfl rfl rfl ?_
  refine W.bipush (32 : Int32) d1_5 (pc' := 7) rfl rfl ?_
  refine W.newI 32 32 d1_7 (wd hw 9 rfl) rfl (by decide) rfl (by decide) (by decide) (by decide) (by decide) (pc' := 9) rfl ?_
  intro r1
  show W _ _ _ _ _ _ 1 32 ((r1, (IA Z .int (List.replicate 32 0))) :: (t, (ShTS Z .null .null .null .null (.int (0 : Int32)) .null .null .null)) :: F) 9 #[.val (.ref t), .val (.int (3 : Int32))] [(.ref r1), (.ref t)]
  refine W.putF ((r1, (IA Z .int (List.replicate 32 0))) :: (t, (ShTS Z (.ref r1) .null .null .null (.int (0 : Int32)) .null .null .null)) :: F) 1 0 d1_9 (host := "") (Or.inl (wd hw 10 rfl)) Via.refl (Or.inl (wd hw 11 rfl)) (wd hw 1 rfl) (ty := (.array .int)) (by decide) rfl rfl rfl rfl rfl (pc' := 12) rfl ?_
  refine W.aloadN d1_12 (pc' := 13) rfl rfl rfl ?_
  refine W.new [("java/util/HashMap", "loadFactor", "F", (.float (0 : UInt32)))] d1_13 (wd hw 12 rfl) (wd hw 13 rfl) (wd hw 14 rfl) ⟨⟨Or.inr (wd hw 27 rfl), .float, by decide, rfl⟩, trivial⟩ (by decide) (by decide) (by decide) (pc' := 16) rfl ?_
  intro r2
  show W _ _ _ _ _ _ 2 40 ((r2, (ShHM Z (.float (0 : UInt32)))) :: (r1, (IA Z .int (List.replicate 32 0))) :: (t, (ShTS Z (.ref r1) .null .null .null (.int (0 : Int32)) .null .null .null)) :: F) 16 #[.val (.ref t), .val (.int (3 : Int32))] [(.ref r2), (.ref t)]
  refine W.dup d1_16 (pc' := 17) rfl rfl ?_
  refine W.callI (mHM l Z n0 a0 hw _ r2) d1_17 rfl (wd hw 15 rfl) (wd hw 16 rfl) (wd hw 14 rfl) (wd hw 17 rfl) (by decide) pd0 rfl rfl (Nat.le_of_ble_eq_true rfl) (Nat.le_of_ble_eq_true rfl) (Nat.le_of_ble_eq_true rfl) (Nat.le_of_ble_eq_true rfl) rfl (pc' := 20) rfl ?_
  intro v9 s9 q9
  rw [q9.1, q9.2]
  clear q9 v9 s9
  show W _ _ _ _ _ _ 2 40 ((r2, (ShHM Z (.float (1061158912 : UInt32)))) :: (r1, (IA Z .int (List.replicate 32 0))) :: (t, (ShTS Z (.ref r1) .null .null .null (.int (0 : Int32)) .null .null .null)) :: F) 20 #[.val (.ref t), .val (.int (3 : Int32))] [(.ref r2), (.ref t)]
  refine W.putF ((r2, (ShHM Z (.float (1061158912 : UInt32)))) :: (r1, (IA Z .int (List.replicate 32 0))) :: (t, (ShTS Z (.ref r1) (.ref r2) .null .null (.int (0 : Int32)) .null .null .null)) :: F) 2 1 d1_20 (host := "") (Or.inl (wd hw 28 rfl)) Via.refl (Or.inr ⟨(wd hw 29 rfl), rfl, rfl⟩) (wd hw 1 rfl) (ty := (.object "java/util/Map")) (by decide) rfl rfl rfl rfl rfl (pc' := 23) rfl ?_
  refine W.aloadN d1_23 (pc' := 24) rfl rfl rfl ?_
  refine W.new [("java/util/AbstractList", "modCount", "I", (.int (0 : Int32))), ("java/util/ArrayList", "elementData", "[Ljava/lang/Object;", .null)] d1_24 (wd hw 30 rfl) (wd hw 31 rfl) (wd hw 32 rfl) ⟨⟨Or.inl (wd hw 50 rfl), .int, by decide, rfl⟩, ⟨Or.inl (wd hw 53 rfl), (.array (.object "java/lang/Object")), by decide, rfl⟩, trivial⟩ (by decide) (by decide) (by decide) (pc' := 27) rfl ?_
  intro r3
  show W _ _ _ _ _ _ 3 43 ((r3, (ShAL Z (.int (0 : Int32)) .null)) :: (r2, (ShHM Z (.float (1061158912 : UInt32)))) :: (r1, (IA Z .int (List.replicate 32 0))) :: (t, (ShTS Z (.ref r1) (.ref r2) .null .null (.int (0 : Int32)) .null .null .null)) :: F) 27 #[.val (.ref t), .val (.int (3 : Int32))] [(.ref r3), (.ref t)]
  refine W.dup d1_27 (pc' := 28) rfl rfl ?_
  refine W.callI (mAL l Z n0 a0 hw dv hdr hdv _ r3) d1_28 rfl (wd hw 33 rfl) (wd hw 34 rfl) (wd hw 32 rfl) (wd hw 35 rfl) (by decide) pd0 rfl rfl (Nat.le_of_ble_eq_true rfl) (Nat.le_of_ble_eq_true rfl) (Nat.le_of_ble_eq_true rfl) (Nat.le_of_ble_eq_true rfl) rfl (pc' := 31) rfl ?_
  intro v9 s9 q9
  rw [q9.1, q9.2]
  clear q9 v9 s9
  show W _ _ _ _ _ _ 3 43 ((r3, (ShAL Z (.int (0 : Int32)) dv)) :: (r2, (ShHM Z (.float (1061158912 : UInt32)))) :: (r1, (IA Z .int (List.replicate 32 0))) :: (t, (ShTS Z (.ref r1) (.ref r2) .null .null (.int (0 : Int32)) .null .null .null)) :: F) 31 #[.val (.ref t), .val (.int (3 : Int32))] [(.ref r3), (.ref t)]
  refine W.putF ((r3, (ShAL Z (.int (0 : Int32)) dv)) :: (r2, (ShHM Z (.float (1061158912 : UInt32)))) :: (r1, (IA Z .int (List.replicate 32 0))) :: (t, (ShTS Z (.ref r1) (.ref r2) (.ref r3) .null (.int (0 : Int32)) .null .null .null)) :: F) 3 2 d1_31 (host := "") (Or.inl (wd hw 54 rfl)) Via.refl (Or.inr ⟨(wd hw 55 rfl), rfl, rfl⟩) (wd hw 1 rfl) (ty := (.object "java/util/List")) (by decide) rfl rfl rfl rfl rfl (pc' := 34) rfl ?_
  refine W.aloadN d1_34 (pc' := 35) rfl rfl rfl ?_
  refine W.bipush (16 : Int32) d1_35 (pc' := 37) rfl rfl ?_
  refine W.newI 16 16 d1_37 (wd hw 9 rfl) rfl (by decide) rfl (by decide) (by decide) (by decide) (by decide) (pc' := 39) rfl ?_
  intro r4
  show W _ _ _ _ _ _ 4 59 ((r4, (IA Z .int (List.replicate 16 0))) :: (r3, (ShAL Z (.int (0 : Int32)) dv)) :: (r2, (ShHM Z (.float (1061158912 : UInt32)))) :: (r1, (IA Z .int (List.replicate 32 0))) :: (t, (ShTS Z (.ref r1) (.ref r2) (.ref r3) .null (.int (0 : Int32)) .null .null .null)) :: F) 39 #[.val (.ref t), .val (.int (3 : Int32))] [(.ref r4), (.ref t)]
  refine W.putF ((r4, (IA Z .int (List.replicate 16 0))) :: (r3, (ShAL Z (.int (0 : Int32)) dv)) :: (r2, (ShHM Z (.float (1061158912 : UInt32)))) :: (r1, (IA Z .int (List.replicate 32 0))) :: (t, (ShTS Z (.ref r1) (.ref r2) (.ref r3) (.ref r4) (.int (0 : Int32)) .null .null .null)) :: F) 4 3 d1_39 (host := "") (Or.inl (wd hw 56 rfl)) Via.refl (Or.inl (wd hw 57 rfl)) (wd hw 1 rfl) (ty := (.array .int)) (by decide) rfl rfl rfl rfl rfl (pc' := 42) rfl ?_
  refine W.aloadN d1_42 (pc' := 43) rfl rfl rfl ?_
  refine W.iloadN d1_43 (pc' := 44) rfl rfl ?_
  refine W.putF ((r4, (IA Z .int (List.replicate 16 0))) :: (r3, (ShAL Z (.int (0 : Int32)) dv)) :: (r2, (ShHM Z (.float (1061158912 : UInt32)))) :: (r1, (IA Z .int (List.replicate 32 0))) :: (t, (ShTS Z (.ref r1) (.ref r2) (.ref r3) (.ref r4) (.int (3 : Int32)) .null .null .null)) :: F) 4 4 d1_44 (host := "") (Or.inl (wd hw 58 rfl)) Via.refl (Or.inr ⟨(wd hw 59 rfl), rfl, rfl⟩) (wd hw 1 rfl) (ty := .int) (by decide) rfl rfl rfl rfl rfl (pc' := 47) rfl ?_
  refine W.aloadN d1_47 (pc' := 48) rfl rfl rfl ?_
  refine W.bipush (16 : Int32) d1_48 (pc' := 50) rfl rfl ?_
  refine W.iloadN d1_50 (pc' := 51) rfl rfl ?_
  refine W.imul d1_51 (pc' := 52) rfl ?_
  refine W.topI (48 : Int32) (by decide) ?_
  refine W.newI 48 48 d1_52 (wd hw 9 rfl) rfl (by decide) rfl (by decide) (by decide) (by decide) (by decide) (pc' := 54) rfl ?_
  intro r5
  show W _ _ _ _ _ _ 5 107 ((r5, (IA Z .int (List.replicate 48 0))) :: (r4, (IA Z .int (List.replicate 16 0))) :: (r3, (ShAL Z (.int (0 : Int32)) dv)) :: (r2, (ShHM Z (.float (1061158912 : UInt32)))) :: (r1, (IA Z .int (List.replicate 32 0))) :: (t, (ShTS Z (.ref r1) (.ref r2) (.ref r3) (.ref r4) (.int (3 : Int32)) .null .null .null)) :: F) 54 #[.val (.ref t), .val (.int (3 : Int32))] [(.ref r5), (.ref t)]
  refine W.putF ((r5, (IA Z .int (List.replicate 48 0))) :: (r4, (IA Z .int (List.replicate 16 0))) :: (r3, (ShAL Z (.int (0 : Int32)) dv)) :: (r2, (ShHM Z (.float (1061158912 : UInt32)))) :: (r1, (IA Z .int (List.replicate 32 0))) :: (t, (ShTS Z (.ref r1) (.ref r2) (.ref r3) (.ref r4) (.int (3 : Int32)) (.ref r5) .null .null)) :: F) 5 5 d1_54 (host := "") (Or.inl (wd hw 60 rfl)) Via.refl (Or.inl (wd hw 61 rfl)) (wd hw 1 rfl) (ty := (.array .int)) (by decide) rfl rfl rfl rfl rfl (pc' := 57) rfl ?_
  refine W.aloadN d1_57 (pc' := 58) rfl rfl rfl ?_
  refine W.bipush (16 : Int32) d1_58 (pc' := 60) rfl rfl ?_
  refine W.newJ 16 16 d1_60 (wd hw 62 rfl) (by decide) rfl (by decide) (by decide) (by decide) (by decide) (pc' := 62) rfl ?_
  intro r6
  show W _ _ _ _ _ _ 6 123 ((r6, (LA Z (List.replicate 16 0))) :: (r5, (IA Z .int (List.replicate 48 0))) :: (r4, (IA Z .int (List.replicate 16 0))) :: (r3, (ShAL Z (.int (0 : Int32)) dv)) :: (r2, (ShHM Z (.float (1061158912 : UInt32)))) :: (r1, (IA Z .int (List.replicate 32 0))) :: (t, (ShTS Z (.ref r1) (.ref r2) (.ref r3) (.ref r4) (.int (3 : Int32)) (.ref r5) .null .null)) :: F) 62 #[.val (.ref t), .val (.int (3 : Int32))] [(.ref r6), (.ref t)]
  refine W.putF ((r6, (LA Z (List.replicate 16 0))) :: (r5, (IA Z .int (List.replicate 48 0))) :: (r4, (IA Z .int (List.replicate 16 0))) :: (r3, (ShAL Z (.int (0 : Int32)) dv)) :: (r2, (ShHM Z (.float (1061158912 : UInt32)))) :: (r1, (IA Z .int (List.replicate 32 0))) :: (t, (ShTS Z (.ref r1) (.ref r2) (.ref r3) (.ref r4) (.int (3 : Int32)) (.ref r5) (.ref r6) .null)) :: F) 6 6 d1_62 (host := "") (Or.inl (wd hw 63 rfl)) Via.refl (Or.inl (wd hw 64 rfl)) (wd hw 1 rfl) (ty := (.array .long)) (by decide) rfl rfl rfl rfl rfl (pc' := 65) rfl ?_
  refine W.aloadN d1_65 (pc' := 66) rfl rfl rfl ?_
  refine W.bipush (16 : Int32) d1_66 (pc' := 68) rfl rfl ?_
  refine W.newI 16 16 d1_68 (wd hw 65 rfl) rfl (by decide) rfl (by decide) (by decide) (by decide) (by decide) (pc' := 70) rfl ?_
  intro r7
  show W _ _ _ _ _ _ 7 139 ((r7, (IA Z .byte (List.replicate 16 0))) :: (r6, (LA Z (List.replicate 16 0))) :: (r5, (IA Z .int (List.replicate 48 0))) :: (r4, (IA Z .int (List.replicate 16 0))) :: (r3, (ShAL Z (.int (0 : Int32)) dv)) :: (r2, (ShHM Z (.float (1061158912 : UInt32)))) :: (r1, (IA Z .int (List.replicate 32 0))) :: (t, (ShTS Z (.ref r1) (.ref r2) (.ref r3) (.ref r4) (.int (3 : Int32)) (.ref r5) (.ref r6) .null)) :: F) 70 #[.val (.ref t), .val (.int (3 : Int32))] [(.ref r7), (.ref t)]
  refine W.putF ((r7, (IA Z .byte (List.replicate 16 0))) :: (r6, (LA Z (List.replicate 16 0))) :: (r5, (IA Z .int (List.replicate 48 0))) :: (r4, (IA Z .int (List.replicate 16 0))) :: (r3, (ShAL Z (.int (0 : Int32)) dv)) :: (r2, (ShHM Z (.float (1061158912 : UInt32)))) :: (r1, (IA Z .int (List.replicate 32 0))) :: (t, (ShTS Z (.ref r1) (.ref r2) (.ref r3) (.ref r4) (.int (3 : Int32)) (.ref r5) (.ref r6) (.ref r7))) :: F) 7 7 d1_70 (host := "") (Or.inl (wd hw 66 rfl)) Via.refl (Or.inl (wd hw 67 rfl)) (wd hw 1 rfl) (ty := (.array .byte)) (by decide) rfl rfl rfl rfl rfl (pc' := 73) rfl ?_
  refine W.drop ((r6, (LA Z (List.replicate 16 0))) :: (r5, (IA Z .int (List.replicate 48 0))) :: (r4, (IA Z .int (List.replicate 16 0))) :: (r3, (ShAL Z (.int (0 : Int32)) dv)) :: (r2, (ShHM Z (.float (1061158912 : UInt32)))) :: (r1, (IA Z .int (List.replicate 32 0))) :: (t, (ShTS Z (.ref r1) (.ref r2) (.ref r3) (.ref r4) (.int (3 : Int32)) (.ref r5) (.ref r6) (.ref r7))) :: F) 0 rfl ?_
  refine W.drop ((r5, (IA Z .int (List.replicate 48 0))) :: (r4, (IA Z .int (List.replicate 16 0))) :: (r3, (ShAL Z (.int (0 : Int32)) dv)) :: (r2, (ShHM Z (.float (1061158912 : UInt32)))) :: (r1, (IA Z .int (List.replicate 32 0))) :: (t, (ShTS Z (.ref r1) (.ref r2) (.ref r3) (.ref r4) (.int (3 : Int32)) (.ref r5) (.ref r6) (.ref r7))) :: F) 0 rfl ?_
  refine W.drop ((r4, (IA Z .int (List.replicate 16 0))) :: (r3, (ShAL Z (.int (0 : Int32)) dv)) :: (r2, (ShHM Z (.float (1061158912 : UInt32)))) :: (r1, (IA Z .int (List.replicate 32 0))) :: (t, (ShTS Z (.ref r1) (.ref r2) (.ref r3) (.ref r4) (.int (3 : Int32)) (.ref r5) (.ref r6) (.ref r7))) :: F) 0 rfl ?_
  refine W.drop ((r3, (ShAL Z (.int (0 : Int32)) dv)) :: (r2, (ShHM Z (.float (1061158912 : UInt32)))) :: (r1, (IA Z .int (List.replicate 32 0))) :: (t, (ShTS Z (.ref r1) (.ref r2) (.ref r3) (.ref r4) (.int (3 : Int32)) (.ref r5) (.ref r6) (.ref r7))) :: F) 0 rfl ?_
  refine W.drop ((r2, (ShHM Z (.float (1061158912 : UInt32)))) :: (r1, (IA Z .int (List.replicate 32 0))) :: (t, (ShTS Z (.ref r1) (.ref r2) (.ref r3) (.ref r4) (.int (3 : Int32)) (.ref r5) (.ref r6) (.ref r7))) :: F) 0 rfl ?_
  refine W.drop ((r1, (IA Z .int (List.replicate 32 0))) :: (t, (ShTS Z (.ref r1) (.ref r2) (.ref r3) (.ref r4) (.int (3 : Int32)) (.ref r5) (.ref r6) (.ref r7))) :: F) 0 rfl ?_
  refine W.drop ((t, (ShTS Z (.ref r1) (.ref r2) (.ref r3) (.ref r4) (.int (3 : Int32)) (.ref r5) (.ref r6) (.ref r7))) :: F) 0 rfl ?_
  refine W.fewer ((t, (ShT3 Z (.int (3 : Int32)))) :: F) 0 rfl ((((((((List.Sublist.slnil.cons _).cons _).cons _).cons₂ _).cons _).cons _).cons _).cons _) rfl ?_
  exact W.retV d1_73 rfl (by decide) (by decide) ⟨rfl, rfl⟩
theorem pn_mArr : plainFor (⟨"com/example/mendb/mendb/HeadBindingFirstPinLaw", "arr", "(III)[I"⟩ : MethodName) = true := by first | (refine plainFor_of_name ?_; simp [plainName, overriddenIn]; done) | (refine plainFor_of_name ?_; decide +kernel) | decide +kernel
set_option maxRecDepth 65536 in
set_option maxHeartbeats 40000000 in
theorem mArr (l : Launch) (Z : State) (n0 : Nat) (a0 : Array Value) (hw : ∀ d ∈ tables_1, d.before a0 Z = true) (σ : Asn) (n x y : Int32) : Sp l Z n0 (⟨"com/example/mendb/mendb/HeadBindingFirstPinLaw", "arr", "(III)[I"⟩ : MethodName) method_2_code 3 (some (.array .int)) ({ frames := 0, cells := 1, slots := 2, locals := 0 } : Room) [(.int n), (.int x), (.int y)] (σ) (fun v σ' => ∃ a, v = some (.ref a) ∧ σ' = (a, IA Z .int (own_arr n x y)) :: σ) := by
  refine Sp.of (ls := #[.val (.int n), .val (.int x), .val (.int y)]) pn_mArr (fun m => by first | (simp [entryFrame, mkF, argsToLocals, Value.category]; done) | rfl) ?_
  show W _ _ _ _ _ _ 0 0 (σ) 0 #[.val (.int n), .val (.int x), .val (.int y)] []
  refine W.iloadN d8_0 (pc' := 1) rfl rfl ?_
  by_cases h0 : n = 0
  · refine W.ifN d8_1 (XT.i0_ne_f h0) (pc' := 4) rfl ?_
    refine W.iconst (0 : Int32) d8_4 (pc' := 5) rfl rfl ?_
    refine W.newI 0 2 d8_5 (wd hw 9 rfl) rfl (by decide) rfl (by decide) (by decide) (by decide) (by decide) (pc' := 7) rfl ?_
    intro r
    show W _ _ _ _ _ _ 1 2 ((r, (IA Z .int [])) :: σ) 7 #[.val (.int n), .val (.int x), .val (.int y)] [(.ref r)]
    exact W.retA (t := (.array .int)) d8_7 rfl rfl rfl rfl (by decide) (by decide) ⟨r, rfl, by simp [own_arr, h0]⟩
  · refine W.ifY d8_1 (XT.i0_ne_t h0) (by decide) (pc' := 8) rfl ?_
    refine W.iloadN d8_8 (pc' := 9) rfl rfl ?_
    refine W.iconst (1 : Int32) d8_9 (pc' := 10) rfl rfl ?_
    by_cases h1 : n = (1 : Int32)
    · refine W.icmpN d8_10 (XT.ii_ne_f h1) (pc' := 13) rfl ?_
      refine W.iconst (1 : Int32) d8_13 (pc' := 14) rfl rfl ?_
      refine W.newI 1 2 d8_14 (wd hw 9 rfl) rfl (by decide) rfl (by decide) (by decide) (by decide) (by decide) (pc' := 16) rfl ?_
      intro r
      show W _ _ _ _ _ _ 1 2 ((r, (IA Z .int [0])) :: σ) 16 #[.val (.int n), .val (.int x), .val (.int y)] [(.ref r)]
      refine W.dup d8_16 (pc' := 17) rfl rfl ?_
      refine W.iconst (0 : Int32) d8_17 (pc' := 18) rfl rfl ?_
      refine W.iloadN d8_18 (pc' := 19) rfl rfl ?_
      refine W.iastore ((r, (IA Z .int [x])) :: σ) 0 0 d8_19 rfl (by decide) rfl (Nat.le_of_ble_eq_true rfl) rfl (pc' := 20) rfl ?_
      exact W.retA (t := (.array .int)) d8_20 rfl rfl rfl rfl (by decide) (by decide) ⟨r, rfl, by simp [own_arr, h1]⟩
    · refine W.icmpY d8_10 (XT.ii_ne_t h1) (by decide) (pc' := 21) rfl ?_
      refine W.iconst (2 : Int32) d8_21 (pc' := 22) rfl rfl ?_
      refine W.newI 2 2 d8_22 (wd hw 9 rfl) rfl (by decide) rfl (by decide) (by decide) (by decide) (by decide) (pc' := 24) rfl ?_
      intro r
      show W _ _ _ _ _ _ 1 2 ((r, (IA Z .int [0, 0])) :: σ) 24 #[.val (.int n), .val (.int x), .val (.int y)] [(.ref r)]
      refine W.dup d8_24 (pc' := 25) rfl rfl ?_
      refine W.iconst (0 : Int32) d8_25 (pc' := 26) rfl rfl ?_
      refine W.iloadN d8_26 (pc' := 27) rfl rfl ?_
      refine W.iastore ((r, (IA Z .int [x, 0])) :: σ) 0 0 d8_27 rfl (by decide) rfl (Nat.le_of_ble_eq_true rfl) rfl (pc' := 28) rfl ?_
      refine W.dup d8_28 (pc' := 29) rfl rfl ?_
      refine W.iconst (1 : Int32) d8_29 (pc' := 30) rfl rfl ?_
      refine W.iloadN d8_30 (pc' := 31) rfl rfl ?_
      refine W.iastore ((r, (IA Z .int [x, y])) :: σ) 0 1 d8_31 rfl (by decide) rfl (Nat.le_of_ble_eq_true rfl) rfl (pc' := 32) rfl ?_
      exact W.retA (t := (.array .int)) d8_32 rfl rfl rfl rfl (by decide) (by decide) ⟨r, rfl, by simp [own_arr, h0, h1]⟩
theorem pn_mCol : plainFor (⟨"com/example/mendb/mendb/HeadBindingFirstPinLaw", "col", "(IIII)I"⟩ : MethodName) = true := by first | (refine plainFor_of_name ?_; simp [plainName, overriddenIn]; done) | (refine plainFor_of_name ?_; decide +kernel) | decide +kernel
set_option maxRecDepth 65536 in
set_option maxHeartbeats 40000000 in
theorem mCol (l : Launch) (Z : State) (n0 : Nat) (a0 : Array Value) (hw : ∀ d ∈ tables_1, d.before a0 Z = true) (σ : Asn) (k a b c : Int32) : Sp l Z n0 (⟨"com/example/mendb/mendb/HeadBindingFirstPinLaw", "col", "(IIII)I"⟩ : MethodName) method_3_code 4 (some .int) ({ frames := 0, cells := 0, slots := 0, locals := 0 } : Room) [(.int k), (.int a), (.int b), (.int c)] (σ) (Ret (some (.int (own_col k a b c))) σ) := by
  refine Sp.of (ls := #[.val (.int k), .val (.int a), .val (.int b), .val (.int c)]) pn_mCol (fun m => by first | (simp [entryFrame, mkF, argsToLocals, Value.category]; done) | rfl) ?_
  show W _ _ _ _ _ _ 0 0 (σ) 0 #[.val (.int k), .val (.int a), .val (.int b), .val (.int c)] []
  refine W.iloadN d15_0 (pc' := 1) rfl rfl ?_
  by_cases h0 : k = 0
  · refine W.ifN d15_1 (XT.i0_ne_f h0) (pc' := 4) rfl ?_
    refine W.iloadN d15_4 (pc' := 5) rfl rfl ?_
    exact W.retI d15_5 rfl (by decide) (by decide) ⟨by simp [own_col, h0], rfl⟩
  · refine W.ifY d15_1 (XT.i0_ne_t h0) (by decide) (pc' := 6) rfl ?_
    refine W.iloadN d15_6 (pc' := 7) rfl rfl ?_
    refine W.iconst (1 : Int32) d15_7 (pc' := 8) rfl rfl ?_
    by_cases h1 : k = (1 : Int32)
    · refine W.icmpN d15_8 (XT.ii_ne_f h1) (pc' := 11) rfl ?_
      refine W.iloadN d15_11 (pc' := 12) rfl rfl ?_
      exact W.retI d15_12 rfl (by decide) (by decide) ⟨by simp [own_col, h1], rfl⟩
    · refine W.icmpY d15_8 (XT.ii_ne_t h1) (by decide) (pc' := 13) rfl ?_
      refine W.iloadN d15_13 (pc' := 14) rfl rfl ?_
      exact W.retI d15_14 rfl (by decide) (by decide) ⟨by simp [own_col, h0, h1], rfl⟩
theorem pn_mPS : plainFor (⟨"com/example/mendb/mendb/PlanStep", "<init>", "()V"⟩ : MethodName) = true := by first | (refine plainFor_of_name ?_; simp [plainName, overriddenIn]; done) | (refine plainFor_of_name ?_; decide +kernel) | decide +kernel
set_option maxRecDepth 65536 in
set_option maxHeartbeats 40000000 in
theorem mPS (l : Launch) (Z : State) (n0 : Nat) (a0 : Array Value) (hw : ∀ d ∈ tables_1, d.before a0 Z = true) (σ : Asn) (h : Addr) : Sp l Z n0 (⟨"com/example/mendb/mendb/PlanStep", "<init>", "()V"⟩ : MethodName) prog_71_method_1_code 1 none ({ frames := 1, cells := 0, slots := 0, locals := 12 } : Room) [(.ref h)] (σ) (Ret none σ) := by
  refine Sp.of (ls := #[.val (.ref h)]) pn_mPS (fun m => by first | (simp [entryFrame, mkF, argsToLocals, Value.category]; done) | rfl) ?_
  show W _ _ _ _ _ _ 0 0 (σ) 0 #[.val (.ref h)] []
  refine W.aloadN d11_0 (pc' := 1) rfl rfl rfl ?_
  refine W.initO d11_1 (wd hw 88 rfl) (wd hw 7 rfl) (wd hw 8 rfl) rfl (Nat.le_of_ble_eq_true rfl) (Nat.le_of_ble_eq_true rfl) (pc' := 4) rfl ?_
  exact W.retV d11_4 rfl (by decide) (by decide) ⟨rfl, rfl⟩
theorem pn_mOnce : plainFor (⟨"com/example/mendb/mendb/PlanStep$Once", "<init>", "()V"⟩ : MethodName) = true := by first | (refine plainFor_of_name ?_; simp [plainName, overriddenIn]; done) | (refine plainFor_of_name ?_; decide +kernel) | decide +kernel
set_option maxRecDepth 65536 in
set_option maxHeartbeats 40000000 in
theorem mOnce (l : Launch) (Z : State) (n0 : Nat) (a0 : Array Value) (hw : ∀ d ∈ tables_1, d.before a0 Z = true) (σ : Asn) (h : Addr) : Sp l Z n0 (⟨"com/example/mendb/mendb/PlanStep$Once", "<init>", "()V"⟩ : MethodName) prog_83_method_1_code 1 none ({ frames := 2, cells := 0, slots := 0, locals := 24 } : Room) [(.ref h)] (σ) (Ret none σ) := by
  refine Sp.of (ls := #[.val (.ref h)]) pn_mOnce (fun m => by first | (simp [entryFrame, mkF, argsToLocals, Value.category]; done) | rfl) ?_
  show W _ _ _ _ _ _ 0 0 (σ) 0 #[.val (.ref h)] []
  refine W.aloadN d10_0 (pc' := 1) rfl rfl rfl ?_
  refine W.callI (mPS l Z n0 a0 hw σ h) d10_1 rfl (wd hw 83 rfl) (wd hw 84 rfl) (wd hw 86 rfl) (wd hw 87 rfl) (by decide) pd0 rfl rfl (Nat.le_of_ble_eq_true rfl) (Nat.le_of_ble_eq_true rfl) (Nat.le_of_ble_eq_true rfl) (Nat.le_of_ble_eq_true rfl) rfl (pc' := 4) rfl ?_
  intro v9 s9 q9
  rw [q9.1, q9.2]
  clear q9 v9 s9
  show W _ _ _ _ _ _ 0 0 (σ) 4 #[.val (.ref h)] []
  exact W.retV d10_4 rfl (by decide) (by decide) ⟨rfl, rfl⟩
theorem pn_mArity : plainFor (⟨"com/example/mendb/mendb/TupleStore", "arity", "()I"⟩ : MethodName) = true := by first | (refine plainFor_of_name ?_; simp [plainName, overriddenIn]; done) | (refine plainFor_of_name ?_; decide +kernel) | decide +kernel
set_option maxRecDepth 65536 in
set_option maxHeartbeats 40000000 in
theorem mArity (l : Launch) (Z : State) (n0 : Nat) (a0 : Array Value) (hw : ∀ d ∈ tables_1, d.before a0 Z = true) (F : Asn) (t : Addr) : Sp l Z n0 (⟨"com/example/mendb/mendb/TupleStore", "arity", "()I"⟩ : MethodName) prog_127_method_2_code 1 (some .int) ({ frames := 0, cells := 0, slots := 0, locals := 0 } : Room) [(.ref t)] ((t, (ShT3 Z (.int (3 : Int32)))) :: F) (Ret (some (.int 3)) ((t, (ShT3 Z (.int (3 : Int32)))) :: F)) := by
  refine Sp.of (ls := #[.val (.ref t)]) pn_mArity (fun m => by first | (simp [entryFrame, mkF, argsToLocals, Value.category]; done) | rfl) ?_
  show W _ _ _ _ _ _ 0 0 ((t, (ShT3 Z (.int (3 : Int32)))) :: F) 0 #[.val (.ref t)] []
  refine W.aloadN d12_0 (pc' := 1) rfl rfl rfl ?_
  refine W.getF 0 0 d12_1 (host := "") (Or.inl (wd hw 58 rfl)) Via.refl rfl rfl (pc' := 4) rfl ?_
  exact W.retI d12_4 rfl (by decide) (by decide) ⟨rfl, rfl⟩
theorem pn_mHB : plainFor (⟨"com/example/mendb/mendb/PlanStep$HeadBinding", "<init>", "(Lcom/example/mendb/mendb/TupleStore;[I[I[I[I[I)V"⟩ : MethodName) = true := by first | (refine plainFor_of_name ?_; simp [plainName, overriddenIn]; done) | (refine plainFor_of_name ?_; decide +kernel) | decide +kernel
set_option maxRecDepth 65536 in
set_option maxHeartbeats 40000000 in
theorem mHB (l : Launch) (Z : State) (n0 : Nat) (a0 : Array Value) (hw : ∀ d ∈ tables_1, d.before a0 Z = true) (F : Asn) (h t co bc bs tc tl : Addr) : Sp l Z n0 (⟨"com/example/mendb/mendb/PlanStep$HeadBinding", "<init>", "(Lcom/example/mendb/mendb/TupleStore;[I[I[I[I[I)V"⟩ : MethodName) prog_80_method_1_code 7 none ({ frames := 3, cells := 1, slots := 3, locals := 36 } : Room) [(.ref h), (.ref t), (.ref co), (.ref bc), (.ref bs), (.ref tc), (.ref tl)] ((h, (ShHB Z .null .null .null .null .null .null .null)) :: (t, (ShT3 Z (.int (3 : Int32)))) :: F) (fun v σ' => v = none ∧ ∃ tu, σ' = (tu, IA Z .int [0, 0, 0]) :: (h, (ShHB Z (.ref t) (.ref co) (.ref bc) (.ref bs) (.ref tc) (.ref tl) (.ref tu))) :: (t, (ShT3 Z (.int (3 : Int32)))) :: F) := by
  refine Sp.of (ls := #[.val (.ref h), .val (.ref t), .val (.ref co), .val (.ref bc), .val (.ref bs), .val (.ref tc), .val (.ref tl)]) pn_mHB (fun m => by first | (simp [entryFrame, mkF, argsToLocals, Value.category]; done) | rfl) ?_
  show W _ _ _ _ _ _ 0 0 ((h, (ShHB Z .null .null .null .null .null .null .null)) :: (t, (ShT3 Z (.int (3 : Int32)))) :: F) 0 #[.val (.ref h), .val (.ref t), .val (.ref co), .val (.ref bc), .val (.ref bs), .val (.ref tc), .val (.ref tl)] []
  refine W.aloadN d9_0 (pc' := 1) rfl rfl rfl ?_
  refine W.callI (mOnce l Z n0 a0 hw ((h, (ShHB Z .null .null .null .null .null .null .null)) :: (t, (ShT3 Z (.int (3 : Int32)))) :: F) h) d9_1 rfl (wd hw 78 rfl) (wd hw 79 rfl) (wd hw 81 rfl) (wd hw 82 rfl) (by decide) pd0 rfl rfl (Nat.le_of_ble_eq_true rfl) (Nat.le_of_ble_eq_true rfl) (Nat.le_of_ble_eq_true rfl) (Nat.le_of_ble_eq_true rfl) rfl (pc' := 4) rfl ?_
  intro v9 s9 q9
  rw [q9.1, q9.2]
  clear q9 v9 s9
  show W _ _ _ _ _ _ 0 0 ((h, (ShHB Z .null .null .null .null .null .null .null)) :: (t, (ShT3 Z (.int (3 : Int32)))) :: F) 4 #[.val (.ref h), .val (.ref t), .val (.ref co), .val (.ref bc), .val (.ref bs), .val (.ref tc), .val (.ref tl)] []
  refine W.aloadN d9_4 (pc' := 5) rfl rfl rfl ?_
  refine W.aloadN d9_5 (pc' := 6) rfl rfl rfl ?_
  refine W.putF ((h, (ShHB Z (.ref t) .null .null .null .null .null .null)) :: (t, (ShT3 Z (.int (3 : Int32)))) :: F) 0 0 d9_6 (host := "") (Or.inl (wd hw 89 rfl)) Via.refl (Or.inr ⟨(wd hw 90 rfl), rfl, rfl⟩) (wd hw 69 rfl) (ty := (.object "com/example/mendb/mendb/TupleStore")) (by decide) rfl rfl rfl rfl rfl (pc' := 9) rfl ?_
  refine W.aloadN d9_9 (pc' := 10) rfl rfl rfl ?_
  refine W.aloadN d9_10 (pc' := 11) rfl rfl rfl ?_
  refine W.putF ((h, (ShHB Z (.ref t) (.ref co) .null .null .null .null .null)) :: (t, (ShT3 Z (.int (3 : Int32)))) :: F) 0 1 d9_11 (host := "") (Or.inl (wd hw 91 rfl)) Via.refl (Or.inr ⟨(wd hw 92 rfl), rfl, rfl⟩) (wd hw 69 rfl) (ty := (.array .int)) (by decide) rfl rfl rfl rfl rfl (pc' := 14) rfl ?_
  refine W.aloadN d9_14 (pc' := 15) rfl rfl rfl ?_
  refine W.aloadN d9_15 (pc' := 16) rfl rfl rfl ?_
  refine W.putF ((h, (ShHB Z (.ref t) (.ref co) (.ref bc) .null .null .null .null)) :: (t, (ShT3 Z (.int (3 : Int32)))) :: F) 0 2 d9_16 (host := "") (Or.inl (wd hw 93 rfl)) Via.refl (Or.inr ⟨(wd hw 94 rfl), rfl, rfl⟩) (wd hw 69 rfl) (ty := (.array .int)) (by decide) rfl rfl rfl rfl rfl (pc' := 19) rfl ?_
  refine W.aloadN d9_19 (pc' := 20) rfl rfl rfl ?_
  refine W.aload d9_20 (pc' := 22) rfl rfl rfl ?_
  refine W.putF ((h, (ShHB Z (.ref t) (.ref co) (.ref bc) (.ref bs) .null .null .null)) :: (t, (ShT3 Z (.int (3 : Int32)))) :: F) 0 3 d9_22 (host := "") (Or.inl (wd hw 95 rfl)) Via.refl (Or.inr ⟨(wd hw 96 rfl), rfl, rfl⟩) (wd hw 69 rfl) (ty := (.array .int)) (by decide) rfl rfl rfl rfl rfl (pc' := 25) rfl ?_
  refine W.aloadN d9_25 (pc' := 26) rfl rfl rfl ?_
  refine W.aload d9_26 (pc' := 28) rfl rfl rfl ?_
  refine W.putF ((h, (ShHB Z (.ref t) (.ref co) (.ref bc) (.ref bs) (.ref tc) .null .null)) :: (t, (ShT3 Z (.int (3 : Int32)))) :: F) 0 4 d9_28 (host := "") (Or.inl (wd hw 97 rfl)) Via.refl (Or.inr ⟨(wd hw 98 rfl), rfl, rfl⟩) (wd hw 69 rfl) (ty := (.array .int)) (by decide) rfl rfl rfl rfl rfl (pc' := 31) rfl ?_
  refine W.aloadN d9_31 (pc' := 32) rfl rfl rfl ?_
  refine W.aload d9_32 (pc' := 34) rfl rfl rfl ?_
  refine W.putF ((h, (ShHB Z (.ref t) (.ref co) (.ref bc) (.ref bs) (.ref tc) (.ref tl) .null)) :: (t, (ShT3 Z (.int (3 : Int32)))) :: F) 0 5 d9_34 (host := "") (Or.inl (wd hw 99 rfl)) Via.refl (Or.inr ⟨(wd hw 100 rfl), rfl, rfl⟩) (wd hw 69 rfl) (ty := (.array .int)) (by decide) rfl rfl rfl rfl rfl (pc' := 37) rfl ?_
  refine W.aloadN d9_37 (pc' := 38) rfl rfl rfl ?_
  refine W.aloadN d9_38 (pc' := 39) rfl rfl rfl ?_
  refine W.pull ((h, (ShHB Z (.ref t) (.ref co) (.ref bc) (.ref bs) (.ref tc) (.ref tl) .null)) :: F) 1 rfl rfl ?_
  refine W.callV 0 rfl (mArity l Z n0 a0 hw _ t) d9_39 (wd hw 101 rfl) (wd hw 102 rfl) (wd hw 104 rfl) (wd hw 103 rfl) (wd hw 2 rfl) (wd hw 105 rfl) rfl (by decide) pd1 rfl rfl (Nat.le_of_ble_eq_true rfl) (Nat.le_of_ble_eq_true rfl) (Nat.le_of_ble_eq_true rfl) (Nat.le_of_ble_eq_true rfl) rfl (pc' := 42) rfl ?_
  intro v9 s9 q9
  rw [q9.1, q9.2]
  clear q9 v9 s9
  show W _ _ _ _ _ _ 0 0 ((t, (ShT3 Z (.int (3 : Int32)))) :: (h, (ShHB Z (.ref t) (.ref co) (.ref bc) (.ref bs) (.ref tc) (.ref tl) .null)) :: F) 42 #[.val (.ref h), .val (.ref t), .val (.ref co), .val (.ref bc), .val (.ref bs), .val (.ref tc), .val (.ref tl)] [(.int (3 : Int32)), (.ref h)]
  refine W.newI 3 3 d9_42 (wd hw 9 rfl) rfl (by decide) rfl (by decide) (by decide) (by decide) (by decide) (pc' := 44) rfl ?_
  intro tu
  show W _ _ _ _ _ _ 1 3 ((tu, (IA Z .int [0, 0, 0])) :: (t, (ShT3 Z (.int (3 : Int32)))) :: (h, (ShHB Z (.ref t) (.ref co) (.ref bc) (.ref bs) (.ref tc) (.ref tl) .null)) :: F) 44 #[.val (.ref h), .val (.ref t), .val (.ref co), .val (.ref bc), .val (.ref bs), .val (.ref tc), .val (.ref tl)] [(.ref tu), (.ref h)]
  refine W.putF ((tu, (IA Z .int [0, 0, 0])) :: (t, (ShT3 Z (.int (3 : Int32)))) :: (h, (ShHB Z (.ref t) (.ref co) (.ref bc) (.ref bs) (.ref tc) (.ref tl) (.ref tu))) :: F) 2 6 d9_44 (host := "") (Or.inl (wd hw 106 rfl)) Via.refl (Or.inr ⟨(wd hw 107 rfl), rfl, rfl⟩) (wd hw 69 rfl) (ty := (.array .int)) (by decide) rfl rfl rfl rfl rfl (pc' := 47) rfl ?_
  refine W.pulls ((tu, (IA Z .int [0, 0, 0])) :: (h, (ShHB Z (.ref t) (.ref co) (.ref bc) (.ref bs) (.ref tc) (.ref tl) (.ref tu))) :: (t, (ShT3 Z (.int (3 : Int32)))) :: F) [2, 1] rfl ?_
  exact W.retV d9_47 rfl (by decide) (by decide) ⟨rfl, tu, rfl⟩
theorem pn_mBind : plainFor (⟨"com/example/mendb/mendb/PlanStep$HeadBinding", "bindTo", "([I)V"⟩ : MethodName) = true := by first | (refine plainFor_of_name ?_; simp [plainName, overriddenIn]; done) | (refine plainFor_of_name ?_; decide +kernel) | decide +kernel
set_option maxRecDepth 65536 in
set_option maxHeartbeats 40000000 in
theorem mBind (l : Launch) (Z : State) (n0 : Nat) (a0 : Array Value) (hw : ∀ d ∈ tables_1, d.before a0 Z = true) (F : Asn) (h t co bc bs tc tl tu va : Addr) (a b c : Int32) : Sp l Z n0 (⟨"com/example/mendb/mendb/PlanStep$HeadBinding", "bindTo", "([I)V"⟩ : MethodName) prog_80_method_3_code 6 none ({ frames := 0, cells := 0, slots := 0, locals := 0 } : Room) [(.ref h), (.ref va)] ((h, (ShHB Z (.ref t) (.ref co) (.ref bc) (.ref bs) (.ref tc) (.ref tl) (.ref tu))) :: (co, (IA Z .int [0, 1, 2])) :: (tu, (IA Z .int [0, 0, 0])) :: (va, (IA Z .int [a, b, c])) :: F) (Ret none ((h, (ShHB Z (.ref t) (.ref co) (.ref bc) (.ref bs) (.ref tc) (.ref tl) (.ref tu))) :: (co, (IA Z .int [0, 1, 2])) :: (tu, (IA Z .int [a, b, c])) :: (va, (IA Z .int [a, b, c])) :: F)) := by
  refine Sp.of (ls := #[.val (.ref h), .val (.ref va), .unset, .unset, .unset, .unset]) pn_mBind (fun m => by first | (simp [entryFrame, mkF, argsToLocals, Value.category]; done) | rfl) ?_
  show W _ _ _ _ _ _ 0 0 ((h, (ShHB Z (.ref t) (.ref co) (.ref bc) (.ref bs) (.ref tc) (.ref tl) (.ref tu))) :: (co, (IA Z .int [0, 1, 2])) :: (tu, (IA Z .int [0, 0, 0])) :: (va, (IA Z .int [a, b, c])) :: F) 0 #[.val (.ref h), .val (.ref va), .unset, .unset, .unset, .unset] []
  refine W.aloadN d13_0 (pc' := 1) rfl rfl rfl ?_
  refine W.getF 0 1 d13_1 (host := "") (Or.inl (wd hw 91 rfl)) Via.refl rfl rfl (pc' := 4) rfl ?_
  refine W.astoreN #[.val (.ref h), .val (.ref va), .val (.ref co), .unset, .unset, .unset] d13_4 (pc' := 5) rfl rfl rfl ?_
  refine W.aloadN d13_5 (pc' := 6) rfl rfl rfl ?_
  refine W.len 1 (3 : Int32) d13_6 rfl rfl (pc' := 7) rfl ?_
  refine W.istoreN #[.val (.ref h), .val (.ref va), .val (.ref co), .val (.int (3 : Int32)), .unset, .unset] d13_7 (pc' := 8) rfl rfl ?_
  refine W.iconst (0 : Int32) d13_8 (pc' := 9) rfl rfl ?_
  refine W.istore #[.val (.ref h), .val (.ref va), .val (.ref co), .val (.int (3 : Int32)), .val (.int (0 : Int32)), .unset] d13_9 (pc' := 11) rfl rfl ?_
  refine W.iload d13_11 (pc' := 13) rfl rfl ?_
  refine W.iloadN d13_13 (pc' := 14) rfl rfl ?_
  refine W.icmpN d13_14 (by decide) (pc' := 17) rfl ?_
  refine W.aloadN d13_17 (pc' := 18) rfl rfl rfl ?_
  refine W.iload d13_18 (pc' := 20) rfl rfl ?_
  refine W.iaload 1 0 d13_20 rfl (by decide) rfl rfl (pc' := 21) rfl ?_
  refine W.istore #[.val (.ref h), .val (.ref va), .val (.ref co), .val (.int (3 : Int32)), .val (.int (0 : Int32)), .val (.int 0)] d13_21 (pc' := 23) rfl rfl ?_
  refine W.aloadN d13_23 (pc' := 24) rfl rfl rfl ?_
  refine W.getF 0 6 d13_24 (host := "") (Or.inl (wd hw 106 rfl)) Via.refl rfl rfl (pc' := 27) rfl ?_
  refine W.iload d13_27 (pc' := 29) rfl rfl ?_
  refine W.aloadN d13_29 (pc' := 30) rfl rfl rfl ?_
  refine W.iload d13_30 (pc' := 32) rfl rfl ?_
  refine W.iaload 3 0 d13_32 rfl (by decide) rfl rfl (pc' := 33) rfl ?_
  refine W.iastore ((h, (ShHB Z (.ref t) (.ref co) (.ref bc) (.ref bs) (.ref tc) (.ref tl) (.ref tu))) :: (co, (IA Z .int [0, 1, 2])) :: (tu, (IA Z .int [a, 0, 0])) :: (va, (IA Z .int [a, b, c])) :: F) 2 0 d13_33 rfl (by decide) rfl (Nat.le_of_ble_eq_true rfl) rfl (pc' := 34) rfl ?_
  refine W.iinc #[.val (.ref h), .val (.ref va), .val (.ref co), .val (.int (3 : Int32)), .val (.int (1 : Int32)), .val (.int 0)] (1 : Int32) (1 : Int32) d13_34 (pc' := 37) rfl rfl rfl (by decide) rfl ?_
  refine W.goto d13_37 (pc' := 11) (by decide) rfl ?_
  refine W.iload d13_11 (pc' := 13) rfl rfl ?_
  refine W.iloadN d13_13 (pc' := 14) rfl rfl ?_
  refine W.icmpN d13_14 (by decide) (pc' := 17) rfl ?_
  refine W.aloadN d13_17 (pc' := 18) rfl rfl rfl ?_
  refine W.iload d13_18 (pc' := 20) rfl rfl ?_
  refine W.iaload 1 1 d13_20 rfl (by decide) rfl rfl (pc' := 21) rfl ?_
  refine W.istore #[.val (.ref h), .val (.ref va), .val (.ref co), .val (.int (3 : Int32)), .val (.int (1 : Int32)), .val (.int 1)] d13_21 (pc' := 23) rfl rfl ?_
  refine W.aloadN d13_23 (pc' := 24) rfl rfl rfl ?_
  refine W.getF 0 6 d13_24 (host := "") (Or.inl (wd hw 106 rfl)) Via.refl rfl rfl (pc' := 27) rfl ?_
  refine W.iload d13_27 (pc' := 29) rfl rfl ?_
  refine W.aloadN d13_29 (pc' := 30) rfl rfl rfl ?_
  refine W.iload d13_30 (pc' := 32) rfl rfl ?_
  refine W.iaload 3 1 d13_32 rfl (by decide) rfl rfl (pc' := 33) rfl ?_
  refine W.iastore ((h, (ShHB Z (.ref t) (.ref co) (.ref bc) (.ref bs) (.ref tc) (.ref tl) (.ref tu))) :: (co, (IA Z .int [0, 1, 2])) :: (tu, (IA Z .int [a, b, 0])) :: (va, (IA Z .int [a, b, c])) :: F) 2 1 d13_33 rfl (by decide) rfl (Nat.le_of_ble_eq_true rfl) rfl (pc' := 34) rfl ?_
  refine W.iinc #[.val (.ref h), .val (.ref va), .val (.ref co), .val (.int (3 : Int32)), .val (.int (2 : Int32)), .val (.int 1)] (1 : Int32) (2 : Int32) d13_34 (pc' := 37) rfl rfl rfl (by decide) rfl ?_
  refine W.goto d13_37 (pc' := 11) (by decide) rfl ?_
  refine W.iload d13_11 (pc' := 13) rfl rfl ?_
  refine W.iloadN d13_13 (pc' := 14) rfl rfl ?_
  refine W.icmpN d13_14 (by decide) (pc' := 17) rfl ?_
  refine W.aloadN d13_17 (pc' := 18) rfl rfl rfl ?_
  refine W.iload d13_18 (pc' := 20) rfl rfl ?_
  refine W.iaload 1 2 d13_20 rfl (by decide) rfl rfl (pc' := 21) rfl ?_
  refine W.istore #[.val (.ref h), .val (.ref va), .val (.ref co), .val (.int (3 : Int32)), .val (.int (2 : Int32)), .val (.int 2)] d13_21 (pc' := 23) rfl rfl ?_
  refine W.aloadN d13_23 (pc' := 24) rfl rfl rfl ?_
  refine W.getF 0 6 d13_24 (host := "") (Or.inl (wd hw 106 rfl)) Via.refl rfl rfl (pc' := 27) rfl ?_
  refine W.iload d13_27 (pc' := 29) rfl rfl ?_
  refine W.aloadN d13_29 (pc' := 30) rfl rfl rfl ?_
  refine W.iload d13_30 (pc' := 32) rfl rfl ?_
  refine W.iaload 3 2 d13_32 rfl (by decide) rfl rfl (pc' := 33) rfl ?_
  refine W.iastore ((h, (ShHB Z (.ref t) (.ref co) (.ref bc) (.ref bs) (.ref tc) (.ref tl) (.ref tu))) :: (co, (IA Z .int [0, 1, 2])) :: (tu, (IA Z .int [a, b, c])) :: (va, (IA Z .int [a, b, c])) :: F) 2 2 d13_33 rfl (by decide) rfl (Nat.le_of_ble_eq_true rfl) rfl (pc' := 34) rfl ?_
  refine W.iinc #[.val (.ref h), .val (.ref va), .val (.ref co), .val (.int (3 : Int32)), .val (.int (3 : Int32)), .val (.int 2)] (1 : Int32) (3 : Int32) d13_34 (pc' := 37) rfl rfl rfl (by decide) rfl ?_
  refine W.goto d13_37 (pc' := 11) (by decide) rfl ?_
  refine W.iload d13_11 (pc' := 13) rfl rfl ?_
  refine W.iloadN d13_13 (pc' := 14) rfl rfl ?_
  refine W.icmpY d13_14 (by decide) (by decide) (pc' := 40) rfl ?_
  exact W.retV d13_40 rfl (by decide) (by decide) ⟨rfl, rfl⟩
theorem pn_mFirst : plainFor (⟨"com/example/mendb/mendb/PlanStep$HeadBinding", "first", "([I)Z"⟩ : MethodName) = true := by first | (refine plainFor_of_name ?_; simp [plainName, overriddenIn]; done) | (refine plainFor_of_name ?_; decide +kernel) | decide +kernel
set_option maxRecDepth 65536 in
set_option maxHeartbeats 40000000 in
theorem mFirst (l : Launch) (Z : State) (n0 : Nat) (a0 : Array Value) (hw : ∀ d ∈ tables_1, d.before a0 Z = true) (F : Asn) (h t co bc bs tc tl tu sl : Addr) (a b c nb nt b0 b1 v0 v1 t0 t1 u0 u1 : Int32) (xs : List Int32) (hx : xs.length = 4) (hnb : own_3 nb) (hnt : own_3 nt) (hb0 : own_3 b0) (hb1 : own_3 b1) (ht0 : own_3 t0) (ht1 : own_3 t1) (hv0 : own_4 v0) (hv1 : own_4 v1) (hu0 : own_4 u0) (hu1 : own_4 u1) : Sp l Z n0 (⟨"com/example/mendb/mendb/PlanStep$HeadBinding", "first", "([I)Z"⟩ : MethodName) prog_80_method_4_code 3 (some .boolean) ({ frames := 0, cells := 0, slots := 0, locals := 0 } : Room) [(.ref h), (.ref sl)] ((h, (ShHB Z (.ref t) (.ref co) (.ref bc) (.ref bs) (.ref tc) (.ref tl) (.ref tu))) :: (bc, (IA Z .int (own_arr nb b0 b1))) :: (bs, (IA Z .int (own_arr nb v0 v1))) :: (tc, (IA Z .int (own_arr nt t0 t1))) :: (tl, (IA Z .int (own_arr nt u0 u1))) :: (tu, (IA Z .int [a, b, c])) :: (sl, (IA Z .int xs)) :: F) (Ret (some (.int (own_and (own_p nt 1 (own_col t0 a b c) (own_at (own_bind nb v0 v1 (own_col b0 a b c) (own_col b1 a b c) xs) u0)) (own_p nt 2 (own_col t1 a b c) (own_at (own_bind nb v0 v1 (own_col b0 a b c) (own_col b1 a b c) xs) u1))))) ((h, (ShHB Z (.ref t) (.ref co) (.ref bc) (.ref bs) (.ref tc) (.ref tl) (.ref tu))) :: (bc, (IA Z .int (own_arr nb b0 b1))) :: (bs, (IA Z .int (own_arr nb v0 v1))) :: (tc, (IA Z .int (own_arr nt t0 t1))) :: (tl, (IA Z .int (own_arr nt u0 u1))) :: (tu, (IA Z .int [a, b, c])) :: (sl, (IA Z .int (own_bind nb v0 v1 (own_col b0 a b c) (own_col b1 a b c) xs))) :: F)) := by
  refine Sp.of (ls := #[.val (.ref h), .val (.ref sl), .unset]) pn_mFirst (fun m => by first | (simp [entryFrame, mkF, argsToLocals, Value.category]; done) | rfl) ?_
  show W _ _ _ _ _ _ 0 0 ((h, (ShHB Z (.ref t) (.ref co) (.ref bc) (.ref bs) (.ref tc) (.ref tl) (.ref tu))) :: (bc, (IA Z .int (own_arr nb b0 b1))) :: (bs, (IA Z .int (own_arr nb v0 v1))) :: (tc, (IA Z .int (own_arr nt t0 t1))) :: (tl, (IA Z .int (own_arr nt u0 u1))) :: (tu, (IA Z .int [a, b, c])) :: (sl, (IA Z .int xs)) :: F) 0 #[.val (.ref h), .val (.ref sl), .unset] []
  have j36 : ∀ (i : Int32) (ys : List Int32) (_ : ys.length = 4) (_ : ys = (own_bind nb v0 v1 (own_col b0 a b c) (own_col b1 a b c) xs)), W l Z n0 ("com/example/mendb/mendb/PlanStep$HeadBinding", "first", prog_80_method_4_code, 3, (some .boolean)) ({ frames := 0, cells := 0, slots := 0, locals := 0 } : Room) (Ret (some (.int (own_and (own_p nt 1 (own_col t0 a b c) (own_at (own_bind nb v0 v1 (own_col b0 a b c) (own_col b1 a b c) xs) u0)) (own_p nt 2 (own_col t1 a b c) (own_at (own_bind nb v0 v1 (own_col b0 a b c) (own_col b1 a b c) xs) u1))))) ((h, (ShHB Z (.ref t) (.ref co) (.ref bc) (.ref bs) (.ref tc) (.ref tl) (.ref tu))) :: (bc, (IA Z .int (own_arr nb b0 b1))) :: (bs, (IA Z .int (own_arr nb v0 v1))) :: (tc, (IA Z .int (own_arr nt t0 t1))) :: (tl, (IA Z .int (own_arr nt u0 u1))) :: (tu, (IA Z .int [a, b, c])) :: (sl, (IA Z .int (own_bind nb v0 v1 (own_col b0 a b c) (own_col b1 a b c) xs))) :: F)) 0 0 ((h, (ShHB Z (.ref t) (.ref co) (.ref bc) (.ref bs) (.ref tc) (.ref tl) (.ref tu))) :: (bc, (IA Z .int (own_arr nb b0 b1))) :: (bs, (IA Z .int (own_arr nb v0 v1))) :: (tc, (IA Z .int (own_arr nt t0 t1))) :: (tl, (IA Z .int (own_arr nt u0 u1))) :: (tu, (IA Z .int [a, b, c])) :: (sl, (IA Z .int ys)) :: F) 36 #[.val (.ref h), .val (.ref sl), .val (.int i)] [] := by
    intro i ys hy hys
    rcases hnt with rfl | rfl | rfl
    · show W _ _ _ _ _ _ 0 0 ((h, (ShHB Z (.ref t) (.ref co) (.ref bc) (.ref bs) (.ref tc) (.ref tl) (.ref tu))) :: (bc, (IA Z .int (own_arr nb b0 b1))) :: (bs, (IA Z .int (own_arr nb v0 v1))) :: (tc, (IA Z .int [])) :: (tl, (IA Z .int [])) :: (tu, (IA Z .int [a, b, c])) :: (sl, (IA Z .int ys)) :: F) 36 #[.val (.ref h), .val (.ref sl), .val (.int i)] []
      refine W.iconst (0 : Int32) d14_36 (pc' := 37) rfl rfl ?_
      refine W.istoreN #[.val (.ref h), .val (.ref sl), .val (.int (0 : Int32))] d14_37 (pc' := 38) rfl rfl ?_
      refine W.iloadN d14_38 (pc' := 39) rfl rfl ?_
      refine W.aloadN d14_39 (pc' := 40) rfl rfl rfl ?_
      refine W.getF 0 4 d14_40 (host := "") (Or.inl (wd hw 97 rfl)) Via.refl rfl rfl (pc' := 43) rfl ?_
      refine W.len 3 (0 : Int32) d14_43 rfl rfl (pc' := 44) rfl ?_
      refine W.icmpY d14_44 (by decide) (by decide) (pc' := 77) rfl ?_
      refine W.iconst (1 : Int32) d14_77 (pc' := 78) rfl rfl ?_
      exact W.retN (t := .boolean) 1 d14_78 rfl (by simp) rfl (by decide) (by decide) ⟨by rw [← hys]; simp [own_and, own_p], by rw [← hys]; rfl⟩
    · show W _ _ _ _ _ _ 0 0 ((h, (ShHB Z (.ref t) (.ref co) (.ref bc) (.ref bs) (.ref tc) (.ref tl) (.ref tu))) :: (bc, (IA Z .int (own_arr nb b0 b1))) :: (bs, (IA Z .int (own_arr nb v0 v1))) :: (tc, (IA Z .int [t0])) :: (tl, (IA Z .int [u0])) :: (tu, (IA Z .int [a, b, c])) :: (sl, (IA Z .int ys)) :: F) 36 #[.val (.ref h), .val (.ref sl), .val (.int i)] []
      refine W.iconst (0 : Int32) d14_36 (pc' := 37) rfl rfl ?_
      refine W.istoreN #[.val (.ref h), .val (.ref sl), .val (.int (0 : Int32))] d14_37 (pc' := 38) rfl rfl ?_
      refine W.iloadN d14_38 (pc' := 39) rfl rfl ?_
      refine W.aloadN d14_39 (pc' := 40) rfl rfl rfl ?_
      refine W.getF 0 4 d14_40 (host := "") (Or.inl (wd hw 97 rfl)) Via.refl rfl rfl (pc' := 43) rfl ?_
      refine W.len 3 (1 : Int32) d14_43 rfl rfl (pc' := 44) rfl ?_
      refine W.icmpN d14_44 (by decide) (pc' := 47) rfl ?_
      refine W.aloadN d14_47 (pc' := 48) rfl rfl rfl ?_
      refine W.getF 0 6 d14_48 (host := "") (Or.inl (wd hw 106 rfl)) Via.refl rfl rfl (pc' := 51) rfl ?_
      refine W.aloadN d14_51 (pc' := 52) rfl rfl rfl ?_
      refine W.getF 0 4 d14_52 (host := "") (Or.inl (wd hw 97 rfl)) Via.refl rfl rfl (pc' := 55) rfl ?_
      refine W.iloadN d14_55 (pc' := 56) rfl rfl ?_
      refine W.iaload 3 0 d14_56 rfl (by decide) rfl rfl (pc' := 57) rfl ?_
      refine W.iaload 5 t0.toNatClampNeg d14_57 rfl (own_cg ht0 a b c).1 rfl (own_cg ht0 a b c).2 (pc' := 58) rfl ?_
      refine W.aloadN d14_58 (pc' := 59) rfl rfl rfl ?_
      refine W.aloadN d14_59 (pc' := 60) rfl rfl rfl ?_
      refine W.getF 0 5 d14_60 (host := "") (Or.inl (wd hw 99 rfl)) Via.refl rfl rfl (pc' := 63) rfl ?_
      refine W.iloadN d14_63 (pc' := 64) rfl rfl ?_
      refine W.iaload 4 0 d14_64 rfl (by decide) rfl rfl (pc' := 65) rfl ?_
      refine W.iaload 6 u0.toNatClampNeg d14_65 rfl hu0.1 rfl (own_get (by rw [hy]; exact hu0.2)) (pc' := 66) rfl ?_
      by_cases e0 : (own_col t0 a b c) = (own_at ys u0)
      · refine W.icmpY d14_66 (XT.ii_eq_t e0) (by decide) (pc' := 71) rfl ?_
        refine W.iinc #[.val (.ref h), .val (.ref sl), .val (.int (1 : Int32))] (1 : Int32) (1 : Int32) d14_71 (pc' := 74) rfl rfl rfl (by decide) rfl ?_
        refine W.goto d14_74 (pc' := 38) (by decide) rfl ?_
        refine W.iloadN d14_38 (pc' := 39) rfl rfl ?_
        refine W.aloadN d14_39 (pc' := 40) rfl rfl rfl ?_
        refine W.getF 0 4 d14_40 (host := "") (Or.inl (wd hw 97 rfl)) Via.refl rfl rfl (pc' := 43) rfl ?_
        refine W.len 3 (1 : Int32) d14_43 rfl rfl (pc' := 44) rfl ?_
        refine W.icmpY d14_44 (by decide) (by decide) (pc' := 77) rfl ?_
        refine W.iconst (1 : Int32) d14_77 (pc' := 78) rfl rfl ?_
        exact W.retN (t := .boolean) 1 d14_78 rfl (by simp) rfl (by decide) (by decide) ⟨by rw [← hys]; simp [own_and, own_p, e0], by rw [← hys]; rfl⟩
      · refine W.icmpN d14_66 (XT.ii_eq_f e0) (pc' := 69) rfl ?_
        refine W.iconst (0 : Int32) d14_69 (pc' := 70) rfl rfl ?_
        exact W.retN (t := .boolean) 0 d14_70 rfl (by simp) rfl (by decide) (by decide) ⟨by rw [← hys]; simp [own_and, own_p, e0], by rw [← hys]; rfl⟩
    · show W _ _ _ _ _ _ 0 0 ((h, (ShHB Z (.ref t) (.ref co) (.ref bc) (.ref bs) (.ref tc) (.ref tl) (.ref tu))) :: (bc, (IA Z .int (own_arr nb b0 b1))) :: (bs, (IA Z .int (own_arr nb v0 v1))) :: (tc, (IA Z .int [t0, t1])) :: (tl, (IA Z .int [u0, u1])) :: (tu, (IA Z .int [a, b, c])) :: (sl, (IA Z .int ys)) :: F) 36 #[.val (.ref h), .val (.ref sl), .val (.int i)] []
      refine W.iconst (0 : Int32) d14_36 (pc' := 37) rfl rfl ?_
      refine W.istoreN #[.val (.ref h), .val (.ref sl), .val (.int (0 : Int32))] d14_37 (pc' := 38) rfl rfl ?_
      refine W.iloadN d14_38 (pc' := 39) rfl rfl ?_
      refine W.aloadN d14_39 (pc' := 40) rfl rfl rfl ?_
      refine W.getF 0 4 d14_40 (host := "") (Or.inl (wd hw 97 rfl)) Via.refl rfl rfl (pc' := 43) rfl ?_
      refine W.len 3 (2 : Int32) d14_43 rfl rfl (pc' := 44) rfl ?_
      refine W.icmpN d14_44 (by decide) (pc' := 47) rfl ?_
      refine W.aloadN d14_47 (pc' := 48) rfl rfl rfl ?_
      refine W.getF 0 6 d14_48 (host := "") (Or.inl (wd hw 106 rfl)) Via.refl rfl rfl (pc' := 51) rfl ?_
      refine W.aloadN d14_51 (pc' := 52) rfl rfl rfl ?_
      refine W.getF 0 4 d14_52 (host := "") (Or.inl (wd hw 97 rfl)) Via.refl rfl rfl (pc' := 55) rfl ?_
      refine W.iloadN d14_55 (pc' := 56) rfl rfl ?_
      refine W.iaload 3 0 d14_56 rfl (by decide) rfl rfl (pc' := 57) rfl ?_
      refine W.iaload 5 t0.toNatClampNeg d14_57 rfl (own_cg ht0 a b c).1 rfl (own_cg ht0 a b c).2 (pc' := 58) rfl ?_
      refine W.aloadN d14_58 (pc' := 59) rfl rfl rfl ?_
      refine W.aloadN d14_59 (pc' := 60) rfl rfl rfl ?_
      refine W.getF 0 5 d14_60 (host := "") (Or.inl (wd hw 99 rfl)) Via.refl rfl rfl (pc' := 63) rfl ?_
      refine W.iloadN d14_63 (pc' := 64) rfl rfl ?_
      refine W.iaload 4 0 d14_64 rfl (by decide) rfl rfl (pc' := 65) rfl ?_
      refine W.iaload 6 u0.toNatClampNeg d14_65 rfl hu0.1 rfl (own_get (by rw [hy]; exact hu0.2)) (pc' := 66) rfl ?_
      by_cases e0 : (own_col t0 a b c) = (own_at ys u0)
      · refine W.icmpY d14_66 (XT.ii_eq_t e0) (by decide) (pc' := 71) rfl ?_
        refine W.iinc #[.val (.ref h), .val (.ref sl), .val (.int (1 : Int32))] (1 : Int32) (1 : Int32) d14_71 (pc' := 74) rfl rfl rfl (by decide) rfl ?_
        refine W.goto d14_74 (pc' := 38) (by decide) rfl ?_
        refine W.iloadN d14_38 (pc' := 39) rfl rfl ?_
        refine W.aloadN d14_39 (pc' := 40) rfl rfl rfl ?_
        refine W.getF 0 4 d14_40 (host := "") (Or.inl (wd hw 97 rfl)) Via.refl rfl rfl (pc' := 43) rfl ?_
        refine W.len 3 (2 : Int32) d14_43 rfl rfl (pc' := 44) rfl ?_
        refine W.icmpN d14_44 (by decide) (pc' := 47) rfl ?_
        refine W.aloadN d14_47 (pc' := 48) rfl rfl rfl ?_
        refine W.getF 0 6 d14_48 (host := "") (Or.inl (wd hw 106 rfl)) Via.refl rfl rfl (pc' := 51) rfl ?_
        refine W.aloadN d14_51 (pc' := 52) rfl rfl rfl ?_
        refine W.getF 0 4 d14_52 (host := "") (Or.inl (wd hw 97 rfl)) Via.refl rfl rfl (pc' := 55) rfl ?_
        refine W.iloadN d14_55 (pc' := 56) rfl rfl ?_
        refine W.iaload 3 1 d14_56 rfl (by decide) rfl rfl (pc' := 57) rfl ?_
        refine W.iaload 5 t1.toNatClampNeg d14_57 rfl (own_cg ht1 a b c).1 rfl (own_cg ht1 a b c).2 (pc' := 58) rfl ?_
        refine W.aloadN d14_58 (pc' := 59) rfl rfl rfl ?_
        refine W.aloadN d14_59 (pc' := 60) rfl rfl rfl ?_
        refine W.getF 0 5 d14_60 (host := "") (Or.inl (wd hw 99 rfl)) Via.refl rfl rfl (pc' := 63) rfl ?_
        refine W.iloadN d14_63 (pc' := 64) rfl rfl ?_
        refine W.iaload 4 1 d14_64 rfl (by decide) rfl rfl (pc' := 65) rfl ?_
        refine W.iaload 6 u1.toNatClampNeg d14_65 rfl hu1.1 rfl (own_get (by rw [hy]; exact hu1.2)) (pc' := 66) rfl ?_
        by_cases e1 : (own_col t1 a b c) = (own_at ys u1)
        · refine W.icmpY d14_66 (XT.ii_eq_t e1) (by decide) (pc' := 71) rfl ?_
          refine W.iinc #[.val (.ref h), .val (.ref sl), .val (.int (2 : Int32))] (1 : Int32) (2 : Int32) d14_71 (pc' := 74) rfl rfl rfl (by decide) rfl ?_
          refine W.goto d14_74 (pc' := 38) (by decide) rfl ?_
          refine W.iloadN d14_38 (pc' := 39) rfl rfl ?_
          refine W.aloadN d14_39 (pc' := 40) rfl rfl rfl ?_
          refine W.getF 0 4 d14_40 (host := "") (Or.inl (wd hw 97 rfl)) Via.refl rfl rfl (pc' := 43) rfl ?_
          refine W.len 3 (2 : Int32) d14_43 rfl rfl (pc' := 44) rfl ?_
          refine W.icmpY d14_44 (by decide) (by decide) (pc' := 77) rfl ?_
          refine W.iconst (1 : Int32) d14_77 (pc' := 78) rfl rfl ?_
          exact W.retN (t := .boolean) 1 d14_78 rfl (by simp) rfl (by decide) (by decide) ⟨by rw [← hys]; simp [own_and, own_p, e0, e1], by rw [← hys]; rfl⟩
        · refine W.icmpN d14_66 (XT.ii_eq_f e1) (pc' := 69) rfl ?_
          refine W.iconst (0 : Int32) d14_69 (pc' := 70) rfl rfl ?_
          exact W.retN (t := .boolean) 0 d14_70 rfl (by simp) rfl (by decide) (by decide) ⟨by rw [← hys]; simp [own_and, own_p, e0, e1], by rw [← hys]; rfl⟩
      · refine W.icmpN d14_66 (XT.ii_eq_f e0) (pc' := 69) rfl ?_
        refine W.iconst (0 : Int32) d14_69 (pc' := 70) rfl rfl ?_
        exact W.retN (t := .boolean) 0 d14_70 rfl (by simp) rfl (by decide) (by decide) ⟨by rw [← hys]; simp [own_and, own_p, e0], by rw [← hys]; rfl⟩
  rcases hnb with rfl | rfl | rfl
  · show W _ _ _ _ _ _ 0 0 ((h, (ShHB Z (.ref t) (.ref co) (.ref bc) (.ref bs) (.ref tc) (.ref tl) (.ref tu))) :: (bc, (IA Z .int [])) :: (bs, (IA Z .int [])) :: (tc, (IA Z .int (own_arr nt t0 t1))) :: (tl, (IA Z .int (own_arr nt u0 u1))) :: (tu, (IA Z .int [a, b, c])) :: (sl, (IA Z .int xs)) :: F) 0 #[.val (.ref h), .val (.ref sl), .unset] []
    refine W.iconst (0 : Int32) d14_0 (pc' := 1) rfl rfl ?_
    refine W.istoreN #[.val (.ref h), .val (.ref sl), .val (.int (0 : Int32))] d14_1 (pc' := 2) rfl rfl ?_
    refine W.iloadN d14_2 (pc' := 3) rfl rfl ?_
    refine W.aloadN d14_3 (pc' := 4) rfl rfl rfl ?_
    refine W.getF 0 2 d14_4 (host := "") (Or.inl (wd hw 93 rfl)) Via.refl rfl rfl (pc' := 7) rfl ?_
    refine W.len 1 (0 : Int32) d14_7 rfl rfl (pc' := 8) rfl ?_
    refine W.icmpY d14_8 (by decide) (by decide) (pc' := 36) rfl ?_
    exact j36 _ _ (by simp [hx]) (by simp [own_bind, own_b1])
  · show W _ _ _ _ _ _ 0 0 ((h, (ShHB Z (.ref t) (.ref co) (.ref bc) (.ref bs) (.ref tc) (.ref tl) (.ref tu))) :: (bc, (IA Z .int [b0])) :: (bs, (IA Z .int [v0])) :: (tc, (IA Z .int (own_arr nt t0 t1))) :: (tl, (IA Z .int (own_arr nt u0 u1))) :: (tu, (IA Z .int [a, b, c])) :: (sl, (IA Z .int xs)) :: F) 0 #[.val (.ref h), .val (.ref sl), .unset] []
    refine W.iconst (0 : Int32) d14_0 (pc' := 1) rfl rfl ?_
    refine W.istoreN #[.val (.ref h), .val (.ref sl), .val (.int (0 : Int32))] d14_1 (pc' := 2) rfl rfl ?_
    refine W.iloadN d14_2 (pc' := 3) rfl rfl ?_
    refine W.aloadN d14_3 (pc' := 4) rfl rfl rfl ?_
    refine W.getF 0 2 d14_4 (host := "") (Or.inl (wd hw 93 rfl)) Via.refl rfl rfl (pc' := 7) rfl ?_
    refine W.len 1 (1 : Int32) d14_7 rfl rfl (pc' := 8) rfl ?_
    refine W.icmpN d14_8 (by decide) (pc' := 11) rfl ?_
    refine W.aloadN d14_11 (pc' := 12) rfl rfl rfl ?_
    refine W.aloadN d14_12 (pc' := 13) rfl rfl rfl ?_
    refine W.getF 0 3 d14_13 (host := "") (Or.inl (wd hw 95 rfl)) Via.refl rfl rfl (pc' := 16) rfl ?_
    refine W.iloadN d14_16 (pc' := 17) rfl rfl ?_
    refine W.iaload 2 0 d14_17 rfl (by decide) rfl rfl (pc' := 18) rfl ?_
    refine W.aloadN d14_18 (pc' := 19) rfl rfl rfl ?_
    refine W.getF 0 6 d14_19 (host := "") (Or.inl (wd hw 106 rfl)) Via.refl rfl rfl (pc' := 22) rfl ?_
    refine W.aloadN d14_22 (pc' := 23) rfl rfl rfl ?_
    refine W.getF 0 2 d14_23 (host := "") (Or.inl (wd hw 93 rfl)) Via.refl rfl rfl (pc' := 26) rfl ?_
    refine W.iloadN d14_26 (pc' := 27) rfl rfl ?_
    refine W.iaload 1 0 d14_27 rfl (by decide) rfl rfl (pc' := 28) rfl ?_
    refine W.iaload 5 b0.toNatClampNeg d14_28 rfl (own_cg hb0 a b c).1 rfl (own_cg hb0 a b c).2 (pc' := 29) rfl ?_
    refine W.iastore ((h, (ShHB Z (.ref t) (.ref co) (.ref bc) (.ref bs) (.ref tc) (.ref tl) (.ref tu))) :: (bc, (IA Z .int [b0])) :: (bs, (IA Z .int [v0])) :: (tc, (IA Z .int (own_arr nt t0 t1))) :: (tl, (IA Z .int (own_arr nt u0 u1))) :: (tu, (IA Z .int [a, b, c])) :: (sl, (IA Z .int (xs.set v0.toNatClampNeg (own_col b0 a b c)))) :: F) 6 v0.toNatClampNeg d14_29 rfl hv0.1 rfl (by simp [hx]; exact hv0.2) rfl (pc' := 30) rfl ?_
    refine W.iinc #[.val (.ref h), .val (.ref sl), .val (.int (1 : Int32))] (1 : Int32) (1 : Int32) d14_30 (pc' := 33) rfl rfl rfl (by decide) rfl ?_
    refine W.goto d14_33 (pc' := 2) (by decide) rfl ?_
    refine W.iloadN d14_2 (pc' := 3) rfl rfl ?_
    refine W.aloadN d14_3 (pc' := 4) rfl rfl rfl ?_
    refine W.getF 0 2 d14_4 (host := "") (Or.inl (wd hw 93 rfl)) Via.refl rfl rfl (pc' := 7) rfl ?_
    refine W.len 1 (1 : Int32) d14_7 rfl rfl (pc' := 8) rfl ?_
    refine W.icmpY d14_8 (by decide) (by decide) (pc' := 36) rfl ?_
    exact j36 _ _ (by simp [hx]) (by simp [own_bind, own_b1])
  · show W _ _ _ _ _ _ 0 0 ((h, (ShHB Z (.ref t) (.ref co) (.ref bc) (.ref bs) (.ref tc) (.ref tl) (.ref tu))) :: (bc, (IA Z .int [b0, b1])) :: (bs, (IA Z .int [v0, v1])) :: (tc, (IA Z .int (own_arr nt t0 t1))) :: (tl, (IA Z .int (own_arr nt u0 u1))) :: (tu, (IA Z .int [a, b, c])) :: (sl, (IA Z .int xs)) :: F) 0 #[.val (.ref h), .val (.ref sl), .unset] []
    refine W.iconst (0 : Int32) d14_0 (pc' := 1) rfl rfl ?_
    refine W.istoreN #[.val (.ref h), .val (.ref sl), .val (.int (0 : Int32))] d14_1 (pc' := 2) rfl rfl ?_
    refine W.iloadN d14_2 (pc' := 3) rfl rfl ?_
    refine W.aloadN d14_3 (pc' := 4) rfl rfl rfl ?_
    refine W.getF 0 2 d14_4 (host := "") (Or.inl (wd hw 93 rfl)) Via.refl rfl rfl (pc' := 7) rfl ?_
    refine W.len 1 (2 : Int32) d14_7 rfl rfl (pc' := 8) rfl ?_
    refine W.icmpN d14_8 (by decide) (pc' := 11) rfl ?_
    refine W.aloadN d14_11 (pc' := 12) rfl rfl rfl ?_
    refine W.aloadN d14_12 (pc' := 13) rfl rfl rfl ?_
    refine W.getF 0 3 d14_13 (host := "") (Or.inl (wd hw 95 rfl)) Via.refl rfl rfl (pc' := 16) rfl ?_
    refine W.iloadN d14_16 (pc' := 17) rfl rfl ?_
    refine W.iaload 2 0 d14_17 rfl (by decide) rfl rfl (pc' := 18) rfl ?_
    refine W.aloadN d14_18 (pc' := 19) rfl rfl rfl ?_
    refine W.getF 0 6 d14_19 (host := "") (Or.inl (wd hw 106 rfl)) Via.refl rfl rfl (pc' := 22) rfl ?_
    refine W.aloadN d14_22 (pc' := 23) rfl rfl rfl ?_
    refine W.getF 0 2 d14_23 (host := "") (Or.inl (wd hw 93 rfl)) Via.refl rfl rfl (pc' := 26) rfl ?_
    refine W.iloadN d14_26 (pc' := 27) rfl rfl ?_
    refine W.iaload 1 0 d14_27 rfl (by decide) rfl rfl (pc' := 28) rfl ?_
    refine W.iaload 5 b0.toNatClampNeg d14_28 rfl (own_cg hb0 a b c).1 rfl (own_cg hb0 a b c).2 (pc' := 29) rfl ?_
    refine W.iastore ((h, (ShHB Z (.ref t) (.ref co) (.ref bc) (.ref bs) (.ref tc) (.ref tl) (.ref tu))) :: (bc, (IA Z .int [b0, b1])) :: (bs, (IA Z .int [v0, v1])) :: (tc, (IA Z .int (own_arr nt t0 t1))) :: (tl, (IA Z .int (own_arr nt u0 u1))) :: (tu, (IA Z .int [a, b, c])) :: (sl, (IA Z .int (xs.set v0.toNatClampNeg (own_col b0 a b c)))) :: F) 6 v0.toNatClampNeg d14_29 rfl hv0.1 rfl (by simp [hx]; exact hv0.2) rfl (pc' := 30) rfl ?_
    refine W.iinc #[.val (.ref h), .val (.ref sl), .val (.int (1 : Int32))] (1 : Int32) (1 : Int32) d14_30 (pc' := 33) rfl rfl rfl (by decide) rfl ?_
    refine W.goto d14_33 (pc' := 2) (by decide) rfl ?_
    refine W.iloadN d14_2 (pc' := 3) rfl rfl ?_
    refine W.aloadN d14_3 (pc' := 4) rfl rfl rfl ?_
    refine W.getF 0 2 d14_4 (host := "") (Or.inl (wd hw 93 rfl)) Via.refl rfl rfl (pc' := 7) rfl ?_
    refine W.len 1 (2 : Int32) d14_7 rfl rfl (pc' := 8) rfl ?_
    refine W.icmpN d14_8 (by decide) (pc' := 11) rfl ?_
    refine W.aloadN d14_11 (pc' := 12) rfl rfl rfl ?_
    refine W.aloadN d14_12 (pc' := 13) rfl rfl rfl ?_
    refine W.getF 0 3 d14_13 (host := "") (Or.inl (wd hw 95 rfl)) Via.refl rfl rfl (pc' := 16) rfl ?_
    refine W.iloadN d14_16 (pc' := 17) rfl rfl ?_
    refine W.iaload 2 1 d14_17 rfl (by decide) rfl rfl (pc' := 18) rfl ?_
    refine W.aloadN d14_18 (pc' := 19) rfl rfl rfl ?_
    refine W.getF 0 6 d14_19 (host := "") (Or.inl (wd hw 106 rfl)) Via.refl rfl rfl (pc' := 22) rfl ?_
    refine W.aloadN d14_22 (pc' := 23) rfl rfl rfl ?_
    refine W.getF 0 2 d14_23 (host := "") (Or.inl (wd hw 93 rfl)) Via.refl rfl rfl (pc' := 26) rfl ?_
    refine W.iloadN d14_26 (pc' := 27) rfl rfl ?_
    refine W.iaload 1 1 d14_27 rfl (by decide) rfl rfl (pc' := 28) rfl ?_
    refine W.iaload 5 b1.toNatClampNeg d14_28 rfl (own_cg hb1 a b c).1 rfl (own_cg hb1 a b c).2 (pc' := 29) rfl ?_
    refine W.iastore ((h, (ShHB Z (.ref t) (.ref co) (.ref bc) (.ref bs) (.ref tc) (.ref tl) (.ref tu))) :: (bc, (IA Z .int [b0, b1])) :: (bs, (IA Z .int [v0, v1])) :: (tc, (IA Z .int (own_arr nt t0 t1))) :: (tl, (IA Z .int (own_arr nt u0 u1))) :: (tu, (IA Z .int [a, b, c])) :: (sl, (IA Z .int ((xs.set v0.toNatClampNeg (own_col b0 a b c)).set v1.toNatClampNeg (own_col b1 a b c)))) :: F) 6 v1.toNatClampNeg d14_29 rfl hv1.1 rfl (by simp [hx]; exact hv1.2) rfl (pc' := 30) rfl ?_
    refine W.iinc #[.val (.ref h), .val (.ref sl), .val (.int (2 : Int32))] (1 : Int32) (2 : Int32) d14_30 (pc' := 33) rfl rfl rfl (by decide) rfl ?_
    refine W.goto d14_33 (pc' := 2) (by decide) rfl ?_
    refine W.iloadN d14_2 (pc' := 3) rfl rfl ?_
    refine W.aloadN d14_3 (pc' := 4) rfl rfl rfl ?_
    refine W.getF 0 2 d14_4 (host := "") (Or.inl (wd hw 93 rfl)) Via.refl rfl rfl (pc' := 7) rfl ?_
    refine W.len 1 (2 : Int32) d14_7 rfl rfl (pc' := 8) rfl ?_
    refine W.icmpY d14_8 (by decide) (by decide) (pc' := 36) rfl ?_
    exact j36 _ _ (by simp [hx]) (by simp [own_bind, own_b1])
theorem pn_m0 : plainFor x = true := by first | (refine plainFor_of_name ?_; simp [plainName, overriddenIn]; done) | (refine plainFor_of_name ?_; decide +kernel) | decide +kernel
set_option maxRecDepth 65536 in
set_option maxHeartbeats 40000000 in
theorem m0 (l : Launch) (Z : State) (n0 : Nat) (a0 : Array Value) (hw : ∀ d ∈ tables_1, d.before a0 Z = true) (dv : Value) (hdr : dv.isRef = true) (hdv : Sta Z Z.heap "java/util/ArrayList" "DEFAULTCAPACITY_EMPTY_ELEMENTDATA" "[Ljava/lang/Object;" dv) (a b c d e sel : Int32) : Sp l Z n0 x code maxLocals ret room_1 [(.int a), (.int b), (.int c), (.int d), (.int e), (.int sel)] [] (fun v _ => v = some (.int 1)) := by
  refine Sp.of (ls := #[.val (.int a), .val (.int b), .val (.int c), .val (.int d), .val (.int e), .val (.int sel), .unset, .unset, .unset, .unset, .unset, .unset, .unset, .unset, .unset, .unset, .unset, .unset, .unset, .unset, .unset, .unset, .unset, .unset, .unset, .unset]) pn_m0 (fun m => by first | (simp [entryFrame, mkF, argsToLocals, Value.category, maxLocals]; done) | rfl) ?_
  show W _ _ _ _ _ _ 0 0 [] 0 #[.val (.int a), .val (.int b), .val (.int c), .val (.int d), .val (.int e), .val (.int sel), .unset, .unset, .unset, .unset, .unset, .unset, .unset, .unset, .unset, .unset, .unset, .unset, .unset, .unset, .unset, .unset, .unset, .unset, .unset, .unset] []
  refine W.iload at_0 (pc' := 2) rfl rfl ?_
  refine W.iconst (3 : Int32) at_2 (pc' := 3) rfl rfl ?_
  refine W.iand at_3 (pc' := 4) rfl ?_
  refine W.iconst (3 : Int32) at_4 (pc' := 5) rfl rfl ?_
  refine W.irem at_5 (pc' := 6) rfl (by decide) ?_
  obtain ⟨nb, h_nb⟩ : ∃ nb : Int32, nb = ((sel &&& (3 : Int32)) % (3 : Int32)) := ⟨_, rfl⟩
  rw [← h_nb]
  refine W.istore #[.val (.int a), .val (.int b), .val (.int c), .val (.int d), .val (.int e), .val (.int sel), .val (.int nb), .unset, .unset, .unset, .unset, .unset, .unset, .unset, .unset, .unset, .unset, .unset, .unset, .unset, .unset, .unset, .unset, .unset, .unset, .unset] at_6 (pc' := 8) rfl rfl ?_
  refine W.iload at_8 (pc' := 10) rfl rfl ?_
  refine W.iconst (2 : Int32) at_10 (pc' := 11) rfl rfl ?_
  refine W.iushr at_11 (pc' := 12) rfl ?_
  refine W.iconst (3 : Int32) at_12 (pc' := 13) rfl rfl ?_
  refine W.iand at_13 (pc' := 14) rfl ?_
  refine W.iconst (3 : Int32) at_14 (pc' := 15) rfl rfl ?_
  refine W.irem at_15 (pc' := 16) rfl (by decide) ?_
  obtain ⟨b0, h_b0⟩ : ∃ b0 : Int32, b0 = (((XT.ushr sel (2 : Int32)) &&& (3 : Int32)) % (3 : Int32)) := ⟨_, rfl⟩
  rw [← h_b0]
  refine W.istore #[.val (.int a), .val (.int b), .val (.int c), .val (.int d), .val (.int e), .val (.int sel), .val (.int nb), .val (.int b0), .unset, .unset, .unset, .unset, .unset, .unset, .unset, .unset, .unset, .unset, .unset, .unset, .unset, .unset, .unset, .unset, .unset, .unset] at_16 (pc' := 18) rfl rfl ?_
  refine W.iload at_18 (pc' := 20) rfl rfl ?_
  refine W.iconst (4 : Int32) at_20 (pc' := 21) rfl rfl ?_
  refine W.iushr at_21 (pc' := 22) rfl ?_
  refine W.iconst (3 : Int32) at_22 (pc' := 23) rfl rfl ?_
  refine W.iand at_23 (pc' := 24) rfl ?_
  refine W.iconst (3 : Int32) at_24 (pc' := 25) rfl rfl ?_
  refine W.irem at_25 (pc' := 26) rfl (by decide) ?_
  obtain ⟨b1, h_b1⟩ : ∃ b1 : Int32, b1 = (((XT.ushr sel (4 : Int32)) &&& (3 : Int32)) % (3 : Int32)) := ⟨_, rfl⟩
  rw [← h_b1]
  refine W.istore #[.val (.int a), .val (.int b), .val (.int c), .val (.int d), .val (.int e), .val (.int sel), .val (.int nb), .val (.int b0), .val (.int b1), .unset, .unset, .unset, .unset, .unset, .unset, .unset, .unset, .unset, .unset, .unset, .unset, .unset, .unset, .unset, .unset, .unset] at_26 (pc' := 28) rfl rfl ?_
  refine W.iload at_28 (pc' := 30) rfl rfl ?_
  refine W.bipush (6 : Int32) at_30 (pc' := 32) rfl rfl ?_
  refine W.iushr at_32 (pc' := 33) rfl ?_
  refine W.iconst (3 : Int32) at_33 (pc' := 34) rfl rfl ?_
  refine W.iand at_34 (pc' := 35) rfl ?_
  refine W.iconst (3 : Int32) at_35 (pc' := 36) rfl rfl ?_
  refine W.irem at_36 (pc' := 37) rfl (by decide) ?_
  obtain ⟨nt, h_nt⟩ : ∃ nt : Int32, nt = (((XT.ushr sel (6 : Int32)) &&& (3 : Int32)) % (3 : Int32)) := ⟨_, rfl⟩
  rw [← h_nt]
  refine W.istore #[.val (.int a), .val (.int b), .val (.int c), .val (.int d), .val (.int e), .val (.int sel), .val (.int nb), .val (.int b0), .val (.int b1), .val (.int nt), .unset, .unset, .unset, .unset, .unset, .unset, .unset, .unset, .unset, .unset, .unset, .unset, .unset, .unset, .unset, .unset] at_37 (pc' := 39) rfl rfl ?_
  refine W.iload at_39 (pc' := 41) rfl rfl ?_
  refine W.bipush (8 : Int32) at_41 (pc' := 43) rfl rfl ?_
  refine W.iushr at_43 (pc' := 44) rfl ?_
  refine W.iconst (3 : Int32) at_44 (pc' := 45) rfl rfl ?_
  refine W.iand at_45 (pc' := 46) rfl ?_
  refine W.iconst (3 : Int32) at_46 (pc' := 47) rfl rfl ?_
  refine W.irem at_47 (pc' := 48) rfl (by decide) ?_
  obtain ⟨t0, h_t0⟩ : ∃ t0 : Int32, t0 = (((XT.ushr sel (8 : Int32)) &&& (3 : Int32)) % (3 : Int32)) := ⟨_, rfl⟩
  rw [← h_t0]
  refine W.istore #[.val (.int a), .val (.int b), .val (.int c), .val (.int d), .val (.int e), .val (.int sel), .val (.int nb), .val (.int b0), .val (.int b1), .val (.int nt), .val (.int t0), .unset, .unset, .unset, .unset, .unset, .unset, .unset, .unset, .unset, .unset, .unset, .unset, .unset, .unset, .unset] at_48 (pc' := 50) rfl rfl ?_
  refine W.iload at_50 (pc' := 52) rfl rfl ?_
  refine W.bipush (10 : Int32) at_52 (pc' := 54) rfl rfl ?_
  refine W.iushr at_54 (pc' := 55) rfl ?_
  refine W.iconst (3 : Int32) at_55 (pc' := 56) rfl rfl ?_
  refine W.iand at_56 (pc' := 57) rfl ?_
  refine W.iconst (3 : Int32) at_57 (pc' := 58) rfl rfl ?_
  refine W.irem at_58 (pc' := 59) rfl (by decide) ?_
  obtain ⟨t1, h_t1⟩ : ∃ t1 : Int32, t1 = (((XT.ushr sel (10 : Int32)) &&& (3 : Int32)) % (3 : Int32)) := ⟨_, rfl⟩
  rw [← h_t1]
  refine W.istore #[.val (.int a), .val (.int b), .val (.int c), .val (.int d), .val (.int e), .val (.int sel), .val (.int nb), .val (.int b0), .val (.int b1), .val (.int nt), .val (.int t0), .val (.int t1), .unset, .unset, .unset, .unset, .unset, .unset, .unset, .unset, .unset, .unset, .unset, .unset, .unset, .unset] at_59 (pc' := 61) rfl rfl ?_
  refine W.iload at_61 (pc' := 63) rfl rfl ?_
  refine W.bipush (12 : Int32) at_63 (pc' := 65) rfl rfl ?_
  refine W.iushr at_65 (pc' := 66) rfl ?_
  refine W.iconst (3 : Int32) at_66 (pc' := 67) rfl rfl ?_
  refine W.iand at_67 (pc' := 68) rfl ?_
  obtain ⟨u0, h_u0⟩ : ∃ u0 : Int32, u0 = ((XT.ushr sel (12 : Int32)) &&& (3 : Int32)) := ⟨_, rfl⟩
  rw [← h_u0]
  refine W.istore #[.val (.int a), .val (.int b), .val (.int c), .val (.int d), .val (.int e), .val (.int sel), .val (.int nb), .val (.int b0), .val (.int b1), .val (.int nt), .val (.int t0), .val (.int t1), .val (.int u0), .unset, .unset, .unset, .unset, .unset, .unset, .unset, .unset, .unset, .unset, .unset, .unset, .unset] at_68 (pc' := 70) rfl rfl ?_
  refine W.iload at_70 (pc' := 72) rfl rfl ?_
  refine W.bipush (14 : Int32) at_72 (pc' := 74) rfl rfl ?_
  refine W.iushr at_74 (pc' := 75) rfl ?_
  refine W.iconst (3 : Int32) at_75 (pc' := 76) rfl rfl ?_
  refine W.iand at_76 (pc' := 77) rfl ?_
  obtain ⟨u1, h_u1⟩ : ∃ u1 : Int32, u1 = ((XT.ushr sel (14 : Int32)) &&& (3 : Int32)) := ⟨_, rfl⟩
  rw [← h_u1]
  refine W.istore #[.val (.int a), .val (.int b), .val (.int c), .val (.int d), .val (.int e), .val (.int sel), .val (.int nb), .val (.int b0), .val (.int b1), .val (.int nt), .val (.int t0), .val (.int t1), .val (.int u0), .val (.int u1), .unset, .unset, .unset, .unset, .unset, .unset, .unset, .unset, .unset, .unset, .unset, .unset] at_77 (pc' := 79) rfl rfl ?_
  refine W.iload at_79 (pc' := 81) rfl rfl ?_
  refine W.bipush (16 : Int32) at_81 (pc' := 83) rfl rfl ?_
  refine W.iushr at_83 (pc' := 84) rfl ?_
  refine W.iconst (1 : Int32) at_84 (pc' := 85) rfl rfl ?_
  refine W.iand at_85 (pc' := 86) rfl ?_
  have j_i2 : ∀ (i2 : Int32) (_ : i2 = (if ((XT.ushr sel (16 : Int32)) &&& (1 : Int32)) = 0 then d else a)), W l Z n0 (x.cls, x.name, code, maxLocals, ret) room_1 (fun v _ => v = some (.int 1)) 0 0 [] 94 #[.val (.int a), .val (.int b), .val (.int c), .val (.int d), .val (.int e), .val (.int sel), .val (.int nb), .val (.int b0), .val (.int b1), .val (.int nt), .val (.int t0), .val (.int t1), .val (.int u0), .val (.int u1), .unset, .unset, .unset, .unset, .unset, .unset, .unset, .unset, .unset, .unset, .unset, .unset] [(.int i2)] := by
    intro i2 h_i2
    refine W.istore #[.val (.int a), .val (.int b), .val (.int c), .val (.int d), .val (.int e), .val (.int sel), .val (.int nb), .val (.int b0), .val (.int b1), .val (.int nt), .val (.int t0), .val (.int t1), .val (.int u0), .val (.int u1), .val (.int i2), .unset, .unset, .unset, .unset, .unset, .unset, .unset, .unset, .unset, .unset, .unset] at_94 (pc' := 96) rfl rfl ?_
    refine W.iload at_96 (pc' := 98) rfl rfl ?_
    refine W.bipush (17 : Int32) at_98 (pc' := 100) rfl rfl ?_
    refine W.iushr at_100 (pc' := 101) rfl ?_
    refine W.iconst (1 : Int32) at_101 (pc' := 102) rfl rfl ?_
    refine W.iand at_102 (pc' := 103) rfl ?_
    have j_i3 : ∀ (i3 : Int32) (_ : i3 = (if ((XT.ushr sel (17 : Int32)) &&& (1 : Int32)) = 0 then e else b)), W l Z n0 (x.cls, x.name, code, maxLocals, ret) room_1 (fun v _ => v = some (.int 1)) 0 0 [] 112 #[.val (.int a), .val (.int b), .val (.int c), .val (.int d), .val (.int e), .val (.int sel), .val (.int nb), .val (.int b0), .val (.int b1), .val (.int nt), .val (.int t0), .val (.int t1), .val (.int u0), .val (.int u1), .val (.int i2), .unset, .unset, .unset, .unset, .unset, .unset, .unset, .unset, .unset, .unset, .unset] [(.int i3)] := by
      intro i3 h_i3
      refine W.istore #[.val (.int a), .val (.int b), .val (.int c), .val (.int d), .val (.int e), .val (.int sel), .val (.int nb), .val (.int b0), .val (.int b1), .val (.int nt), .val (.int t0), .val (.int t1), .val (.int u0), .val (.int u1), .val (.int i2), .val (.int i3), .unset, .unset, .unset, .unset, .unset, .unset, .unset, .unset, .unset, .unset] at_112 (pc' := 114) rfl rfl ?_
      refine W.iload at_114 (pc' := 116) rfl rfl ?_
      refine W.bipush (18 : Int32) at_116 (pc' := 118) rfl rfl ?_
      refine W.iushr at_118 (pc' := 119) rfl ?_
      refine W.iconst (3 : Int32) at_119 (pc' := 120) rfl rfl ?_
      refine W.iand at_120 (pc' := 121) rfl ?_
      obtain ⟨v0, h_v0⟩ : ∃ v0 : Int32, v0 = ((XT.ushr sel (18 : Int32)) &&& (3 : Int32)) := ⟨_, rfl⟩
      rw [← h_v0]
      refine W.istore #[.val (.int a), .val (.int b), .val (.int c), .val (.int d), .val (.int e), .val (.int sel), .val (.int nb), .val (.int b0), .val (.int b1), .val (.int nt), .val (.int t0), .val (.int t1), .val (.int u0), .val (.int u1), .val (.int i2), .val (.int i3), .val (.int v0), .unset, .unset, .unset, .unset, .unset, .unset, .unset, .unset, .unset] at_121 (pc' := 123) rfl rfl ?_
      refine W.iload at_123 (pc' := 125) rfl rfl ?_
      refine W.bipush (20 : Int32) at_125 (pc' := 127) rfl rfl ?_
      refine W.iushr at_127 (pc' := 128) rfl ?_
      refine W.iconst (3 : Int32) at_128 (pc' := 129) rfl rfl ?_
      refine W.iand at_129 (pc' := 130) rfl ?_
      obtain ⟨v1, h_v1⟩ : ∃ v1 : Int32, v1 = ((XT.ushr sel (20 : Int32)) &&& (3 : Int32)) := ⟨_, rfl⟩
      rw [← h_v1]
      have k_nb : own_3 nb := by rw [h_nb]; exact own_m3 _
      have k_b0 : own_3 b0 := by rw [h_b0]; exact own_m3 _
      have k_b1 : own_3 b1 := by rw [h_b1]; exact own_m3 _
      have k_nt : own_3 nt := by rw [h_nt]; exact own_m3 _
      have k_t0 : own_3 t0 := by rw [h_t0]; exact own_m3 _
      have k_t1 : own_3 t1 := by rw [h_t1]; exact own_m3 _
      have k_u0 : own_4 u0 := by rw [h_u0]; exact own_m4 _
      have k_u1 : own_4 u1 := by rw [h_u1]; exact own_m4 _
      have k_v0 : own_4 v0 := by rw [h_v0]; exact own_m4 _
      have k_v1 : own_4 v1 := by rw [h_v1]; exact own_m4 _
      refine W.istore #[.val (.int a), .val (.int b), .val (.int c), .val (.int d), .val (.int e), .val (.int sel), .val (.int nb), .val (.int b0), .val (.int b1), .val (.int nt), .val (.int t0), .val (.int t1), .val (.int u0), .val (.int u1), .val (.int i2), .val (.int i3), .val (.int v0), .val (.int v1), .unset, .unset, .unset, .unset, .unset, .unset, .unset, .unset] at_130 (pc' := 132) rfl rfl ?_
      refine W.new [("com/example/mendb/mendb/TupleStore", "slots", "[I", .null), ("com/example/mendb/mendb/TupleStore", "indexes", "Ljava/util/Map;", .null), ("com/example/mendb/mendb/TupleStore", "indexList", "Ljava/util/List;", .null), ("com/example/mendb/mendb/TupleStore", "removed", "[I", .null), ("com/example/mendb/mendb/TupleStore", "arity", "I", (.int (0 : Int32))), ("com/example/mendb/mendb/TupleStore", "values", "[I", .null), ("com/example/mendb/mendb/TupleStore", "levels", "[J", .null), ("com/example/mendb/mendb/TupleStore", "states", "[B", .null)] at_132 (wd hw 0 rfl) (wd hw 1 rfl) (wd hw 2 rfl) ⟨⟨Or.inl (wd hw 11 rfl), (.array .int), by decide, rfl⟩, ⟨Or.inr (wd hw 29 rfl), (.object "java/util/Map"), by decide, rfl⟩, ⟨Or.inr (wd hw 55 rfl), (.object "java/util/List"), by decide, rfl⟩, ⟨Or.inl (wd hw 57 rfl), (.array .int), by decide, rfl⟩, ⟨Or.inr (wd hw 59 rfl), .int, by decide, rfl⟩, ⟨Or.inl (wd hw 61 rfl), (.array .int), by decide, rfl⟩, ⟨Or.inl (wd hw 64 rfl), (.array .long), by decide, rfl⟩, ⟨Or.inl (wd hw 67 rfl), (.array .byte), by decide, rfl⟩, trivial⟩ (by decide) (by decide) (by decide) (pc' := 135) rfl ?_
      intro t
      show W _ _ _ _ _ _ 1 17 [(t, (ShTS Z .null .null .null .null (.int (0 : Int32)) .null .null .null))] 135 #[.val (.int a), .val (.int b), .val (.int c), .val (.int d), .val (.int e), .val (.int sel), .val (.int nb), .val (.int b0), .val (.int b1), .val (.int nt), .val (.int t0), .val (.int t1), .val (.int u0), .val (.int u1), .val (.int i2), .val (.int i3), .val (.int v0), .val (.int v1), .unset, .unset, .unset, .unset, .unset, .unset, .unset, .unset] [(.ref t)]
      refine W.dup at_135 (pc' := 136) rfl rfl ?_
      refine W.iconst (3 : Int32) at_136 (pc' := 137) rfl rfl ?_
      refine W.callI (mTS l Z n0 a0 hw dv hdr hdv [] t) at_137 rfl (wd hw 3 rfl) (wd hw 4 rfl) (wd hw 2 rfl) (wd hw 5 rfl) (by decide) pd2 rfl rfl (Nat.le_of_ble_eq_true rfl) (Nat.le_of_ble_eq_true rfl) (Nat.le_of_ble_eq_true rfl) (Nat.le_of_ble_eq_true rfl) rfl (pc' := 140) rfl ?_
      intro v9 s9 q9
      rw [q9.1, q9.2]
      clear q9 v9 s9
      show W _ _ _ _ _ _ 8 156 [(t, (ShT3 Z (.int (3 : Int32))))] 140 #[.val (.int a), .val (.int b), .val (.int c), .val (.int d), .val (.int e), .val (.int sel), .val (.int nb), .val (.int b0), .val (.int b1), .val (.int nt), .val (.int t0), .val (.int t1), .val (.int u0), .val (.int u1), .val (.int i2), .val (.int i3), .val (.int v0), .val (.int v1), .unset, .unset, .unset, .unset, .unset, .unset, .unset, .unset] [(.ref t)]
      refine W.astore #[.val (.int a), .val (.int b), .val (.int c), .val (.int d), .val (.int e), .val (.int sel), .val (.int nb), .val (.int b0), .val (.int b1), .val (.int nt), .val (.int t0), .val (.int t1), .val (.int u0), .val (.int u1), .val (.int i2), .val (.int i3), .val (.int v0), .val (.int v1), .val (.ref t), .unset, .unset, .unset, .unset, .unset, .unset, .unset] at_140 (pc' := 142) rfl rfl rfl ?_
      refine W.new [("com/example/mendb/mendb/PlanStep$HeadBinding", "store", "Lcom/example/mendb/mendb/TupleStore;", .null), ("com/example/mendb/mendb/PlanStep$HeadBinding", "columns", "[I", .null), ("com/example/mendb/mendb/PlanStep$HeadBinding", "bindColumns", "[I", .null), ("com/example/mendb/mendb/PlanStep$HeadBinding", "bindSlots", "[I", .null), ("com/example/mendb/mendb/PlanStep$HeadBinding", "testColumns", "[I", .null), ("com/example/mendb/mendb/PlanStep$HeadBinding", "testSlots", "[I", .null), ("com/example/mendb/mendb/PlanStep$HeadBinding", "tuple", "[I", .null)] at_142 (wd hw 68 rfl) (wd hw 69 rfl) (wd hw 70 rfl) ⟨⟨Or.inr (wd hw 90 rfl), (.object "com/example/mendb/mendb/TupleStore"), by decide, rfl⟩, ⟨Or.inr (wd hw 92 rfl), (.array .int), by decide, rfl⟩, ⟨Or.inr (wd hw 94 rfl), (.array .int), by decide, rfl⟩, ⟨Or.inr (wd hw 96 rfl), (.array .int), by decide, rfl⟩, ⟨Or.inr (wd hw 98 rfl), (.array .int), by decide, rfl⟩, ⟨Or.inr (wd hw 100 rfl), (.array .int), by decide, rfl⟩, ⟨Or.inr (wd hw 107 rfl), (.array .int), by decide, rfl⟩, trivial⟩ (by decide) (by decide) (by decide) (pc' := 145) rfl ?_
      intro h
      show W _ _ _ _ _ _ 9 163 [(h, (ShHB Z .null .null .null .null .null .null .null)), (t, (ShT3 Z (.int (3 : Int32))))] 145 #[.val (.int a), .val (.int b), .val (.int c), .val (.int d), .val (.int e), .val (.int sel), .val (.int nb), .val (.int b0), .val (.int b1), .val (.int nt), .val (.int t0), .val (.int t1), .val (.int u0), .val (.int u1), .val (.int i2), .val (.int i3), .val (.int v0), .val (.int v1), .val (.ref t), .unset, .unset, .unset, .unset, .unset, .unset, .unset] [(.ref h)]
      refine W.dup at_145 (pc' := 146) rfl rfl ?_
      refine W.aload at_146 (pc' := 148) rfl rfl rfl ?_
      refine W.iconst (3 : Int32) at_148 (pc' := 149) rfl rfl ?_
      refine W.newI 3 3 at_149 (wd hw 9 rfl) rfl (by decide) rfl (by decide) (by decide) (by decide) (by decide) (pc' := 151) rfl ?_
      intro co
      show W _ _ _ _ _ _ 10 166 [(co, (IA Z .int [0, 0, 0])), (h, (ShHB Z .null .null .null .null .null .null .null)), (t, (ShT3 Z (.int (3 : Int32))))] 151 #[.val (.int a), .val (.int b), .val (.int c), .val (.int d), .val (.int e), .val (.int sel), .val (.int nb), .val (.int b0), .val (.int b1), .val (.int nt), .val (.int t0), .val (.int t1), .val (.int u0), .val (.int u1), .val (.int i2), .val (.int i3), .val (.int v0), .val (.int v1), .val (.ref t), .unset, .unset, .unset, .unset, .unset, .unset, .unset] [(.ref co), (.ref t), (.ref h), (.ref h)]
      refine W.dup at_151 (pc' := 152) rfl rfl ?_
      refine W.iconst (0 : Int32) at_152 (pc' := 153) rfl rfl ?_
      refine W.iconst (0 : Int32) at_153 (pc' := 154) rfl rfl ?_
      refine W.iastore [(co, (IA Z .int [0, 0, 0])), (h, (ShHB Z .null .null .null .null .null .null .null)), (t, (ShT3 Z (.int (3 : Int32))))] 0 0 at_154 rfl (by decide) rfl (Nat.le_of_ble_eq_true rfl) rfl (pc' := 155) rfl ?_
      refine W.dup at_155 (pc' := 156) rfl rfl ?_
      refine W.iconst (1 : Int32) at_156 (pc' := 157) rfl rfl ?_
      refine W.iconst (1 : Int32) at_157 (pc' := 158) rfl rfl ?_
      refine W.iastore [(co, (IA Z .int [0, 1, 0])), (h, (ShHB Z .null .null .null .null .null .null .null)), (t, (ShT3 Z (.int (3 : Int32))))] 0 1 at_158 rfl (by decide) rfl (Nat.le_of_ble_eq_true rfl) rfl (pc' := 159) rfl ?_
      refine W.dup at_159 (pc' := 160) rfl rfl ?_
      refine W.iconst (2 : Int32) at_160 (pc' := 161) rfl rfl ?_
      refine W.iconst (2 : Int32) at_161 (pc' := 162) rfl rfl ?_
      refine W.iastore [(co, (IA Z .int [0, 1, 2])), (h, (ShHB Z .null .null .null .null .null .null .null)), (t, (ShT3 Z (.int (3 : Int32))))] 0 2 at_162 rfl (by decide) rfl (Nat.le_of_ble_eq_true rfl) rfl (pc' := 163) rfl ?_
      refine W.iload at_163 (pc' := 165) rfl rfl ?_
      refine W.iload at_165 (pc' := 167) rfl rfl ?_
      refine W.iload at_167 (pc' := 169) rfl rfl ?_
      refine W.callS (mArr l Z n0 a0 hw [(co, (IA Z .int [0, 1, 2])), (h, (ShHB Z .null .null .null .null .null .null .null)), (t, (ShT3 Z (.int (3 : Int32))))] nb b0 b1) at_169 (wd hw 71 rfl) (wd hw 72 rfl) (wd hw 73 rfl) (wd hw 74 rfl) (by decide) pd3 rfl rfl (Nat.le_of_ble_eq_true rfl) (Nat.le_of_ble_eq_true rfl) (Nat.le_of_ble_eq_true rfl) (Nat.le_of_ble_eq_true rfl) rfl (pc' := 172) rfl ?_
      rintro _ _ ⟨bc, rfl, rfl⟩
      show W _ _ _ _ _ _ 11 168 [(bc, (IA Z .int (own_arr nb b0 b1))), (co, (IA Z .int [0, 1, 2])), (h, (ShHB Z .null .null .null .null .null .null .null)), (t, (ShT3 Z (.int (3 : Int32))))] 172 #[.val (.int a), .val (.int b), .val (.int c), .val (.int d), .val (.int e), .val (.int sel), .val (.int nb), .val (.int b0), .val (.int b1), .val (.int nt), .val (.int t0), .val (.int t1), .val (.int u0), .val (.int u1), .val (.int i2), .val (.int i3), .val (.int v0), .val (.int v1), .val (.ref t), .unset, .unset, .unset, .unset, .unset, .unset, .unset] [(.ref bc), (.ref co), (.ref t), (.ref h), (.ref h)]
      refine W.iload at_172 (pc' := 174) rfl rfl ?_
      refine W.iload at_174 (pc' := 176) rfl rfl ?_
      refine W.iload at_176 (pc' := 178) rfl rfl ?_
      refine W.callS (mArr l Z n0 a0 hw [(bc, (IA Z .int (own_arr nb b0 b1))), (co, (IA Z .int [0, 1, 2])), (h, (ShHB Z .null .null .null .null .null .null .null)), (t, (ShT3 Z (.int (3 : Int32))))] nb v0 v1) at_178 (wd hw 71 rfl) (wd hw 72 rfl) (wd hw 73 rfl) (wd hw 74 rfl) (by decide) pd3 rfl rfl (Nat.le_of_ble_eq_true rfl) (Nat.le_of_ble_eq_true rfl) (Nat.le_of_ble_eq_true rfl) (Nat.le_of_ble_eq_true rfl) rfl (pc' := 181) rfl ?_
      rintro _ _ ⟨bs, rfl, rfl⟩
      show W _ _ _ _ _ _ 12 170 [(bs, (IA Z .int (own_arr nb v0 v1))), (bc, (IA Z .int (own_arr nb b0 b1))), (co, (IA Z .int [0, 1, 2])), (h, (ShHB Z .null .null .null .null .null .null .null)), (t, (ShT3 Z (.int (3 : Int32))))] 181 #[.val (.int a), .val (.int b), .val (.int c), .val (.int d), .val (.int e), .val (.int sel), .val (.int nb), .val (.int b0), .val (.int b1), .val (.int nt), .val (.int t0), .val (.int t1), .val (.int u0), .val (.int u1), .val (.int i2), .val (.int i3), .val (.int v0), .val (.int v1), .val (.ref t), .unset, .unset, .unset, .unset, .unset, .unset, .unset] [(.ref bs), (.ref bc), (.ref co), (.ref t), (.ref h), (.ref h)]
      refine W.iload at_181 (pc' := 183) rfl rfl ?_
      refine W.iload at_183 (pc' := 185) rfl rfl ?_
      refine W.iload at_185 (pc' := 187) rfl rfl ?_
      refine W.callS (mArr l Z n0 a0 hw [(bs, (IA Z .int (own_arr nb v0 v1))), (bc, (IA Z .int (own_arr nb b0 b1))), (co, (IA Z .int [0, 1, 2])), (h, (ShHB Z .null .null .null .null .null .null .null)), (t, (ShT3 Z (.int (3 : Int32))))] nt t0 t1) at_187 (wd hw 71 rfl) (wd hw 72 rfl) (wd hw 73 rfl) (wd hw 74 rfl) (by decide) pd3 rfl rfl (Nat.le_of_ble_eq_true rfl) (Nat.le_of_ble_eq_true rfl) (Nat.le_of_ble_eq_true rfl) (Nat.le_of_ble_eq_true rfl) rfl (pc' := 190) rfl ?_
      rintro _ _ ⟨tc, rfl, rfl⟩
      show W _ _ _ _ _ _ 13 172 [(tc, (IA Z .int (own_arr nt t0 t1))), (bs, (IA Z .int (own_arr nb v0 v1))), (bc, (IA Z .int (own_arr nb b0 b1))), (co, (IA Z .int [0, 1, 2])), (h, (ShHB Z .null .null .null .null .null .null .null)), (t, (ShT3 Z (.int (3 : Int32))))] 190 #[.val (.int a), .val (.int b), .val (.int c), .val (.int d), .val (.int e), .val (.int sel), .val (.int nb), .val (.int b0), .val (.int b1), .val (.int nt), .val (.int t0), .val (.int t1), .val (.int u0), .val (.int u1), .val (.int i2), .val (.int i3), .val (.int v0), .val (.int v1), .val (.ref t), .unset, .unset, .unset, .unset, .unset, .unset, .unset] [(.ref tc), (.ref bs), (.ref bc), (.ref co), (.ref t), (.ref h), (.ref h)]
      refine W.iload at_190 (pc' := 192) rfl rfl ?_
      refine W.iload at_192 (pc' := 194) rfl rfl ?_
      refine W.iload at_194 (pc' := 196) rfl rfl ?_
      refine W.callS (mArr l Z n0 a0 hw [(tc, (IA Z .int (own_arr nt t0 t1))), (bs, (IA Z .int (own_arr nb v0 v1))), (bc, (IA Z .int (own_arr nb b0 b1))), (co, (IA Z .int [0, 1, 2])), (h, (ShHB Z .null .null .null .null .null .null .null)), (t, (ShT3 Z (.int (3 : Int32))))] nt u0 u1) at_196 (wd hw 71 rfl) (wd hw 72 rfl) (wd hw 73 rfl) (wd hw 74 rfl) (by decide) pd3 rfl rfl (Nat.le_of_ble_eq_true rfl) (Nat.le_of_ble_eq_true rfl) (Nat.le_of_ble_eq_true rfl) (Nat.le_of_ble_eq_true rfl) rfl (pc' := 199) rfl ?_
      rintro _ _ ⟨tl, rfl, rfl⟩
      show W _ _ _ _ _ _ 14 174 [(tl, (IA Z .int (own_arr nt u0 u1))), (tc, (IA Z .int (own_arr nt t0 t1))), (bs, (IA Z .int (own_arr nb v0 v1))), (bc, (IA Z .int (own_arr nb b0 b1))), (co, (IA Z .int [0, 1, 2])), (h, (ShHB Z .null .null .null .null .null .null .null)), (t, (ShT3 Z (.int (3 : Int32))))] 199 #[.val (.int a), .val (.int b), .val (.int c), .val (.int d), .val (.int e), .val (.int sel), .val (.int nb), .val (.int b0), .val (.int b1), .val (.int nt), .val (.int t0), .val (.int t1), .val (.int u0), .val (.int u1), .val (.int i2), .val (.int i3), .val (.int v0), .val (.int v1), .val (.ref t), .unset, .unset, .unset, .unset, .unset, .unset, .unset] [(.ref tl), (.ref tc), (.ref bs), (.ref bc), (.ref co), (.ref t), (.ref h), (.ref h)]
      refine W.pulls [(h, (ShHB Z .null .null .null .null .null .null .null)), (t, (ShT3 Z (.int (3 : Int32)))), (tl, (IA Z .int (own_arr nt u0 u1))), (tc, (IA Z .int (own_arr nt t0 t1))), (bs, (IA Z .int (own_arr nb v0 v1))), (bc, (IA Z .int (own_arr nb b0 b1))), (co, (IA Z .int [0, 1, 2]))] [6, 6] rfl ?_
      refine W.callI (mHB l Z n0 a0 hw [(tl, (IA Z .int (own_arr nt u0 u1))), (tc, (IA Z .int (own_arr nt t0 t1))), (bs, (IA Z .int (own_arr nb v0 v1))), (bc, (IA Z .int (own_arr nb b0 b1))), (co, (IA Z .int [0, 1, 2]))] h t co bc bs tc tl) at_199 rfl (wd hw 75 rfl) (wd hw 76 rfl) (wd hw 70 rfl) (wd hw 77 rfl) (by decide) pd4 rfl rfl (Nat.le_of_ble_eq_true rfl) (Nat.le_of_ble_eq_true rfl) (Nat.le_of_ble_eq_true rfl) (Nat.le_of_ble_eq_true rfl) rfl (pc' := 202) rfl ?_
      rintro _ _ ⟨rfl, tu, rfl⟩
      show W _ _ _ _ _ _ 15 177 [(tu, (IA Z .int [0, 0, 0])), (h, (ShHB Z (.ref t) (.ref co) (.ref bc) (.ref bs) (.ref tc) (.ref tl) (.ref tu))), (t, (ShT3 Z (.int (3 : Int32)))), (tl, (IA Z .int (own_arr nt u0 u1))), (tc, (IA Z .int (own_arr nt t0 t1))), (bs, (IA Z .int (own_arr nb v0 v1))), (bc, (IA Z .int (own_arr nb b0 b1))), (co, (IA Z .int [0, 1, 2]))] 202 #[.val (.int a), .val (.int b), .val (.int c), .val (.int d), .val (.int e), .val (.int sel), .val (.int nb), .val (.int b0), .val (.int b1), .val (.int nt), .val (.int t0), .val (.int t1), .val (.int u0), .val (.int u1), .val (.int i2), .val (.int i3), .val (.int v0), .val (.int v1), .val (.ref t), .unset, .unset, .unset, .unset, .unset, .unset, .unset] [(.ref h)]
      refine W.astore #[.val (.int a), .val (.int b), .val (.int c), .val (.int d), .val (.int e), .val (.int sel), .val (.int nb), .val (.int b0), .val (.int b1), .val (.int nt), .val (.int t0), .val (.int t1), .val (.int u0), .val (.int u1), .val (.int i2), .val (.int i3), .val (.int v0), .val (.int v1), .val (.ref t), .val (.ref h), .unset, .unset, .unset, .unset, .unset, .unset] at_202 (pc' := 204) rfl rfl rfl ?_
      refine W.aload at_204 (pc' := 206) rfl rfl rfl ?_
      refine W.iconst (3 : Int32) at_206 (pc' := 207) rfl rfl ?_
      refine W.newI 3 3 at_207 (wd hw 9 rfl) rfl (by decide) rfl (by decide) (by decide) (by decide) (by decide) (pc' := 209) rfl ?_
      intro va
      show W _ _ _ _ _ _ 16 180 [(va, (IA Z .int [0, 0, 0])), (tu, (IA Z .int [0, 0, 0])), (h, (ShHB Z (.ref t) (.ref co) (.ref bc) (.ref bs) (.ref tc) (.ref tl) (.ref tu))), (t, (ShT3 Z (.int (3 : Int32)))), (tl, (IA Z .int (own_arr nt u0 u1))), (tc, (IA Z .int (own_arr nt t0 t1))), (bs, (IA Z .int (own_arr nb v0 v1))), (bc, (IA Z .int (own_arr nb b0 b1))), (co, (IA Z .int [0, 1, 2]))] 209 #[.val (.int a), .val (.int b), .val (.int c), .val (.int d), .val (.int e), .val (.int sel), .val (.int nb), .val (.int b0), .val (.int b1), .val (.int nt), .val (.int t0), .val (.int t1), .val (.int u0), .val (.int u1), .val (.int i2), .val (.int i3), .val (.int v0), .val (.int v1), .val (.ref t), .val (.ref h), .unset, .unset, .unset, .unset, .unset, .unset] [(.ref va), (.ref h)]
      refine W.dup at_209 (pc' := 210) rfl rfl ?_
      refine W.iconst (0 : Int32) at_210 (pc' := 211) rfl rfl ?_
      refine W.iloadN at_211 (pc' := 212) rfl rfl ?_
      refine W.iastore [(va, (IA Z .int [a, 0, 0])), (tu, (IA Z .int [0, 0, 0])), (h, (ShHB Z (.ref t) (.ref co) (.ref bc) (.ref bs) (.ref tc) (.ref tl) (.ref tu))), (t, (ShT3 Z (.int (3 : Int32)))), (tl, (IA Z .int (own_arr nt u0 u1))), (tc, (IA Z .int (own_arr nt t0 t1))), (bs, (IA Z .int (own_arr nb v0 v1))), (bc, (IA Z .int (own_arr nb b0 b1))), (co, (IA Z .int [0, 1, 2]))] 0 0 at_212 rfl (by decide) rfl (Nat.le_of_ble_eq_true rfl) rfl (pc' := 213) rfl ?_
      refine W.dup at_213 (pc' := 214) rfl rfl ?_
      refine W.iconst (1 : Int32) at_214 (pc' := 215) rfl rfl ?_
      refine W.iloadN at_215 (pc' := 216) rfl rfl ?_
      refine W.iastore [(va, (IA Z .int [a, b, 0])), (tu, (IA Z .int [0, 0, 0])), (h, (ShHB Z (.ref t) (.ref co) (.ref bc) (.ref bs) (.ref tc) (.ref tl) (.ref tu))), (t, (ShT3 Z (.int (3 : Int32)))), (tl, (IA Z .int (own_arr nt u0 u1))), (tc, (IA Z .int (own_arr nt t0 t1))), (bs, (IA Z .int (own_arr nb v0 v1))), (bc, (IA Z .int (own_arr nb b0 b1))), (co, (IA Z .int [0, 1, 2]))] 0 1 at_216 rfl (by decide) rfl (Nat.le_of_ble_eq_true rfl) rfl (pc' := 217) rfl ?_
      refine W.dup at_217 (pc' := 218) rfl rfl ?_
      refine W.iconst (2 : Int32) at_218 (pc' := 219) rfl rfl ?_
      refine W.iloadN at_219 (pc' := 220) rfl rfl ?_
      refine W.iastore [(va, (IA Z .int [a, b, c])), (tu, (IA Z .int [0, 0, 0])), (h, (ShHB Z (.ref t) (.ref co) (.ref bc) (.ref bs) (.ref tc) (.ref tl) (.ref tu))), (t, (ShT3 Z (.int (3 : Int32)))), (tl, (IA Z .int (own_arr nt u0 u1))), (tc, (IA Z .int (own_arr nt t0 t1))), (bs, (IA Z .int (own_arr nb v0 v1))), (bc, (IA Z .int (own_arr nb b0 b1))), (co, (IA Z .int [0, 1, 2]))] 0 2 at_220 rfl (by decide) rfl (Nat.le_of_ble_eq_true rfl) rfl (pc' := 221) rfl ?_
      refine W.pulls [(h, (ShHB Z (.ref t) (.ref co) (.ref bc) (.ref bs) (.ref tc) (.ref tl) (.ref tu))), (co, (IA Z .int [0, 1, 2])), (tu, (IA Z .int [0, 0, 0])), (va, (IA Z .int [a, b, c])), (t, (ShT3 Z (.int (3 : Int32)))), (tl, (IA Z .int (own_arr nt u0 u1))), (tc, (IA Z .int (own_arr nt t0 t1))), (bs, (IA Z .int (own_arr nb v0 v1))), (bc, (IA Z .int (own_arr nb b0 b1)))] [1, 8, 3] rfl ?_
      refine W.callV 0 rfl (mBind l Z n0 a0 hw [(t, (ShT3 Z (.int (3 : Int32)))), (tl, (IA Z .int (own_arr nt u0 u1))), (tc, (IA Z .int (own_arr nt t0 t1))), (bs, (IA Z .int (own_arr nb v0 v1))), (bc, (IA Z .int (own_arr nb b0 b1)))] h t co bc bs tc tl tu va a b c) at_221 (wd hw 108 rfl) (wd hw 109 rfl) (wd hw 111 rfl) (wd hw 110 rfl) (wd hw 70 rfl) (wd hw 112 rfl) rfl (by decide) pd5 rfl rfl (Nat.le_of_ble_eq_true rfl) (Nat.le_of_ble_eq_true rfl) (Nat.le_of_ble_eq_true rfl) (Nat.le_of_ble_eq_true rfl) rfl (pc' := 224) rfl ?_
      intro v9 s9 q9
      rw [q9.1, q9.2]
      clear q9 v9 s9
      show W _ _ _ _ _ _ 16 180 [(h, (ShHB Z (.ref t) (.ref co) (.ref bc) (.ref bs) (.ref tc) (.ref tl) (.ref tu))), (co, (IA Z .int [0, 1, 2])), (tu, (IA Z .int [a, b, c])), (va, (IA Z .int [a, b, c])), (t, (ShT3 Z (.int (3 : Int32)))), (tl, (IA Z .int (own_arr nt u0 u1))), (tc, (IA Z .int (own_arr nt t0 t1))), (bs, (IA Z .int (own_arr nb v0 v1))), (bc, (IA Z .int (own_arr nb b0 b1)))] 224 #[.val (.int a), .val (.int b), .val (.int c), .val (.int d), .val (.int e), .val (.int sel), .val (.int nb), .val (.int b0), .val (.int b1), .val (.int nt), .val (.int t0), .val (.int t1), .val (.int u0), .val (.int u1), .val (.int i2), .val (.int i3), .val (.int v0), .val (.int v1), .val (.ref t), .val (.ref h), .unset, .unset, .unset, .unset, .unset, .unset] []
      refine W.iconst (4 : Int32) at_224 (pc' := 225) rfl rfl ?_
      refine W.newI 4 4 at_225 (wd hw 9 rfl) rfl (by decide) rfl (by decide) (by decide) (by decide) (by decide) (pc' := 227) rfl ?_
      intro sl
      show W _ _ _ _ _ _ 17 184 [(sl, (IA Z .int [0, 0, 0, 0])), (h, (ShHB Z (.ref t) (.ref co) (.ref bc) (.ref bs) (.ref tc) (.ref tl) (.ref tu))), (co, (IA Z .int [0, 1, 2])), (tu, (IA Z .int [a, b, c])), (va, (IA Z .int [a, b, c])), (t, (ShT3 Z (.int (3 : Int32)))), (tl, (IA Z .int (own_arr nt u0 u1))), (tc, (IA Z .int (own_arr nt t0 t1))), (bs, (IA Z .int (own_arr nb v0 v1))), (bc, (IA Z .int (own_arr nb b0 b1)))] 227 #[.val (.int a), .val (.int b), .val (.int c), .val (.int d), .val (.int e), .val (.int sel), .val (.int nb), .val (.int b0), .val (.int b1), .val (.int nt), .val (.int t0), .val (.int t1), .val (.int u0), .val (.int u1), .val (.int i2), .val (.int i3), .val (.int v0), .val (.int v1), .val (.ref t), .val (.ref h), .unset, .unset, .unset, .unset, .unset, .unset] [(.ref sl)]
      refine W.dup at_227 (pc' := 228) rfl rfl ?_
      refine W.iconst (0 : Int32) at_228 (pc' := 229) rfl rfl ?_
      refine W.iloadN at_229 (pc' := 230) rfl rfl ?_
      refine W.iastore [(sl, (IA Z .int [d, 0, 0, 0])), (h, (ShHB Z (.ref t) (.ref co) (.ref bc) (.ref bs) (.ref tc) (.ref tl) (.ref tu))), (co, (IA Z .int [0, 1, 2])), (tu, (IA Z .int [a, b, c])), (va, (IA Z .int [a, b, c])), (t, (ShT3 Z (.int (3 : Int32)))), (tl, (IA Z .int (own_arr nt u0 u1))), (tc, (IA Z .int (own_arr nt t0 t1))), (bs, (IA Z .int (own_arr nb v0 v1))), (bc, (IA Z .int (own_arr nb b0 b1)))] 0 0 at_230 rfl (by decide) rfl (Nat.le_of_ble_eq_true rfl) rfl (pc' := 231) rfl ?_
      refine W.dup at_231 (pc' := 232) rfl rfl ?_
      refine W.iconst (1 : Int32) at_232 (pc' := 233) rfl rfl ?_
      refine W.iload at_233 (pc' := 235) rfl rfl ?_
      refine W.iastore [(sl, (IA Z .int [d, e, 0, 0])), (h, (ShHB Z (.ref t) (.ref co) (.ref bc) (.ref bs) (.ref tc) (.ref tl) (.ref tu))), (co, (IA Z .int [0, 1, 2])), (tu, (IA Z .int [a, b, c])), (va, (IA Z .int [a, b, c])), (t, (ShT3 Z (.int (3 : Int32)))), (tl, (IA Z .int (own_arr nt u0 u1))), (tc, (IA Z .int (own_arr nt t0 t1))), (bs, (IA Z .int (own_arr nb v0 v1))), (bc, (IA Z .int (own_arr nb b0 b1)))] 0 1 at_235 rfl (by decide) rfl (Nat.le_of_ble_eq_true rfl) rfl (pc' := 236) rfl ?_
      refine W.dup at_236 (pc' := 237) rfl rfl ?_
      refine W.iconst (2 : Int32) at_237 (pc' := 238) rfl rfl ?_
      refine W.iload at_238 (pc' := 240) rfl rfl ?_
      refine W.iastore [(sl, (IA Z .int [d, e, i2, 0])), (h, (ShHB Z (.ref t) (.ref co) (.ref bc) (.ref bs) (.ref tc) (.ref tl) (.ref tu))), (co, (IA Z .int [0, 1, 2])), (tu, (IA Z .int [a, b, c])), (va, (IA Z .int [a, b, c])), (t, (ShT3 Z (.int (3 : Int32)))), (tl, (IA Z .int (own_arr nt u0 u1))), (tc, (IA Z .int (own_arr nt t0 t1))), (bs, (IA Z .int (own_arr nb v0 v1))), (bc, (IA Z .int (own_arr nb b0 b1)))] 0 2 at_240 rfl (by decide) rfl (Nat.le_of_ble_eq_true rfl) rfl (pc' := 241) rfl ?_
      refine W.dup at_241 (pc' := 242) rfl rfl ?_
      refine W.iconst (3 : Int32) at_242 (pc' := 243) rfl rfl ?_
      refine W.iload at_243 (pc' := 245) rfl rfl ?_
      refine W.iastore [(sl, (IA Z .int [d, e, i2, i3])), (h, (ShHB Z (.ref t) (.ref co) (.ref bc) (.ref bs) (.ref tc) (.ref tl) (.ref tu))), (co, (IA Z .int [0, 1, 2])), (tu, (IA Z .int [a, b, c])), (va, (IA Z .int [a, b, c])), (t, (ShT3 Z (.int (3 : Int32)))), (tl, (IA Z .int (own_arr nt u0 u1))), (tc, (IA Z .int (own_arr nt t0 t1))), (bs, (IA Z .int (own_arr nb v0 v1))), (bc, (IA Z .int (own_arr nb b0 b1)))] 0 3 at_245 rfl (by decide) rfl (Nat.le_of_ble_eq_true rfl) rfl (pc' := 246) rfl ?_
      refine W.astore #[.val (.int a), .val (.int b), .val (.int c), .val (.int d), .val (.int e), .val (.int sel), .val (.int nb), .val (.int b0), .val (.int b1), .val (.int nt), .val (.int t0), .val (.int t1), .val (.int u0), .val (.int u1), .val (.int i2), .val (.int i3), .val (.int v0), .val (.int v1), .val (.ref t), .val (.ref h), .val (.ref sl), .unset, .unset, .unset, .unset, .unset] at_246 (pc' := 248) rfl rfl rfl ?_
      refine W.iconst (4 : Int32) at_248 (pc' := 249) rfl rfl ?_
      refine W.newI 4 4 at_249 (wd hw 9 rfl) rfl (by decide) rfl (by decide) (by decide) (by decide) (by decide) (pc' := 251) rfl ?_
      intro ex
      show W _ _ _ _ _ _ 18 188 [(ex, (IA Z .int [0, 0, 0, 0])), (sl, (IA Z .int [d, e, i2, i3])), (h, (ShHB Z (.ref t) (.ref co) (.ref bc) (.ref bs) (.ref tc) (.ref tl) (.ref tu))), (co, (IA Z .int [0, 1, 2])), (tu, (IA Z .int [a, b, c])), (va, (IA Z .int [a, b, c])), (t, (ShT3 Z (.int (3 : Int32)))), (tl, (IA Z .int (own_arr nt u0 u1))), (tc, (IA Z .int (own_arr nt t0 t1))), (bs, (IA Z .int (own_arr nb v0 v1))), (bc, (IA Z .int (own_arr nb b0 b1)))] 251 #[.val (.int a), .val (.int b), .val (.int c), .val (.int d), .val (.int e), .val (.int sel), .val (.int nb), .val (.int b0), .val (.int b1), .val (.int nt), .val (.int t0), .val (.int t1), .val (.int u0), .val (.int u1), .val (.int i2), .val (.int i3), .val (.int v0), .val (.int v1), .val (.ref t), .val (.ref h), .val (.ref sl), .unset, .unset, .unset, .unset, .unset] [(.ref ex)]
      refine W.dup at_251 (pc' := 252) rfl rfl ?_
      refine W.iconst (0 : Int32) at_252 (pc' := 253) rfl rfl ?_
      refine W.iloadN at_253 (pc' := 254) rfl rfl ?_
      refine W.iastore [(ex, (IA Z .int [d, 0, 0, 0])), (sl, (IA Z .int [d, e, i2, i3])), (h, (ShHB Z (.ref t) (.ref co) (.ref bc) (.ref bs) (.ref tc) (.ref tl) (.ref tu))), (co, (IA Z .int [0, 1, 2])), (tu, (IA Z .int [a, b, c])), (va, (IA Z .int [a, b, c])), (t, (ShT3 Z (.int (3 : Int32)))), (tl, (IA Z .int (own_arr nt u0 u1))), (tc, (IA Z .int (own_arr nt t0 t1))), (bs, (IA Z .int (own_arr nb v0 v1))), (bc, (IA Z .int (own_arr nb b0 b1)))] 0 0 at_254 rfl (by decide) rfl (Nat.le_of_ble_eq_true rfl) rfl (pc' := 255) rfl ?_
      refine W.dup at_255 (pc' := 256) rfl rfl ?_
      refine W.iconst (1 : Int32) at_256 (pc' := 257) rfl rfl ?_
      refine W.iload at_257 (pc' := 259) rfl rfl ?_
      refine W.iastore [(ex, (IA Z .int [d, e, 0, 0])), (sl, (IA Z .int [d, e, i2, i3])), (h, (ShHB Z (.ref t) (.ref co) (.ref bc) (.ref bs) (.ref tc) (.ref tl) (.ref tu))), (co, (IA Z .int [0, 1, 2])), (tu, (IA Z .int [a, b, c])), (va, (IA Z .int [a, b, c])), (t, (ShT3 Z (.int (3 : Int32)))), (tl, (IA Z .int (own_arr nt u0 u1))), (tc, (IA Z .int (own_arr nt t0 t1))), (bs, (IA Z .int (own_arr nb v0 v1))), (bc, (IA Z .int (own_arr nb b0 b1)))] 0 1 at_259 rfl (by decide) rfl (Nat.le_of_ble_eq_true rfl) rfl (pc' := 260) rfl ?_
      refine W.dup at_260 (pc' := 261) rfl rfl ?_
      refine W.iconst (2 : Int32) at_261 (pc' := 262) rfl rfl ?_
      refine W.iload at_262 (pc' := 264) rfl rfl ?_
      refine W.iastore [(ex, (IA Z .int [d, e, i2, 0])), (sl, (IA Z .int [d, e, i2, i3])), (h, (ShHB Z (.ref t) (.ref co) (.ref bc) (.ref bs) (.ref tc) (.ref tl) (.ref tu))), (co, (IA Z .int [0, 1, 2])), (tu, (IA Z .int [a, b, c])), (va, (IA Z .int [a, b, c])), (t, (ShT3 Z (.int (3 : Int32)))), (tl, (IA Z .int (own_arr nt u0 u1))), (tc, (IA Z .int (own_arr nt t0 t1))), (bs, (IA Z .int (own_arr nb v0 v1))), (bc, (IA Z .int (own_arr nb b0 b1)))] 0 2 at_264 rfl (by decide) rfl (Nat.le_of_ble_eq_true rfl) rfl (pc' := 265) rfl ?_
      refine W.dup at_265 (pc' := 266) rfl rfl ?_
      refine W.iconst (3 : Int32) at_266 (pc' := 267) rfl rfl ?_
      refine W.iload at_267 (pc' := 269) rfl rfl ?_
      refine W.iastore [(ex, (IA Z .int [d, e, i2, i3])), (sl, (IA Z .int [d, e, i2, i3])), (h, (ShHB Z (.ref t) (.ref co) (.ref bc) (.ref bs) (.ref tc) (.ref tl) (.ref tu))), (co, (IA Z .int [0, 1, 2])), (tu, (IA Z .int [a, b, c])), (va, (IA Z .int [a, b, c])), (t, (ShT3 Z (.int (3 : Int32)))), (tl, (IA Z .int (own_arr nt u0 u1))), (tc, (IA Z .int (own_arr nt t0 t1))), (bs, (IA Z .int (own_arr nb v0 v1))), (bc, (IA Z .int (own_arr nb b0 b1)))] 0 3 at_269 rfl (by decide) rfl (Nat.le_of_ble_eq_true rfl) rfl (pc' := 270) rfl ?_
      refine W.astore #[.val (.int a), .val (.int b), .val (.int c), .val (.int d), .val (.int e), .val (.int sel), .val (.int nb), .val (.int b0), .val (.int b1), .val (.int nt), .val (.int t0), .val (.int t1), .val (.int u0), .val (.int u1), .val (.int i2), .val (.int i3), .val (.int v0), .val (.int v1), .val (.ref t), .val (.ref h), .val (.ref sl), .val (.ref ex), .unset, .unset, .unset, .unset] at_270 (pc' := 272) rfl rfl rfl ?_
      refine W.aload at_272 (pc' := 274) rfl rfl rfl ?_
      refine W.aload at_274 (pc' := 276) rfl rfl rfl ?_
      refine W.pulls [(h, (ShHB Z (.ref t) (.ref co) (.ref bc) (.ref bs) (.ref tc) (.ref tl) (.ref tu))), (bc, (IA Z .int (own_arr nb b0 b1))), (bs, (IA Z .int (own_arr nb v0 v1))), (tc, (IA Z .int (own_arr nt t0 t1))), (tl, (IA Z .int (own_arr nt u0 u1))), (tu, (IA Z .int [a, b, c])), (sl, (IA Z .int [d, e, i2, i3])), (ex, (IA Z .int [d, e, i2, i3])), (co, (IA Z .int [0, 1, 2])), (va, (IA Z .int [a, b, c])), (t, (ShT3 Z (.int (3 : Int32))))] [1, 4, 7, 8, 9, 10, 7] rfl ?_
      refine W.callV 0 rfl (mFirst l Z n0 a0 hw [(ex, (IA Z .int [d, e, i2, i3])), (co, (IA Z .int [0, 1, 2])), (va, (IA Z .int [a, b, c])), (t, (ShT3 Z (.int (3 : Int32))))] h t co bc bs tc tl tu sl a b c nb nt b0 b1 v0 v1 t0 t1 u0 u1 [d, e, i2, i3] rfl k_nb k_nt k_b0 k_b1 k_t0 k_t1 k_v0 k_v1 k_u0 k_u1) at_276 (wd hw 113 rfl) (wd hw 114 rfl) (wd hw 116 rfl) (wd hw 115 rfl) (wd hw 70 rfl) (wd hw 117 rfl) rfl (by decide) pd6 rfl rfl (Nat.le_of_ble_eq_true rfl) (Nat.le_of_ble_eq_true rfl) (Nat.le_of_ble_eq_true rfl) (Nat.le_of_ble_eq_true rfl) rfl (pc' := 279) rfl ?_
      intro v9 s9 q9
      rw [q9.1, q9.2]
      clear q9 v9 s9
      show W _ _ _ _ _ _ 18 188 [(h, (ShHB Z (.ref t) (.ref co) (.ref bc) (.ref bs) (.ref tc) (.ref tl) (.ref tu))), (bc, (IA Z .int (own_arr nb b0 b1))), (bs, (IA Z .int (own_arr nb v0 v1))), (tc, (IA Z .int (own_arr nt t0 t1))), (tl, (IA Z .int (own_arr nt u0 u1))), (tu, (IA Z .int [a, b, c])), (sl, (IA Z .int (own_bind nb v0 v1 (own_col b0 a b c) (own_col b1 a b c) [d, e, i2, i3]))), (ex, (IA Z .int [d, e, i2, i3])), (co, (IA Z .int [0, 1, 2])), (va, (IA Z .int [a, b, c])), (t, (ShT3 Z (.int (3 : Int32))))] 279 #[.val (.int a), .val (.int b), .val (.int c), .val (.int d), .val (.int e), .val (.int sel), .val (.int nb), .val (.int b0), .val (.int b1), .val (.int nt), .val (.int t0), .val (.int t1), .val (.int u0), .val (.int u1), .val (.int i2), .val (.int i3), .val (.int v0), .val (.int v1), .val (.ref t), .val (.ref h), .val (.ref sl), .val (.ref ex), .unset, .unset, .unset, .unset] [(.int (own_and (own_p nt 1 (own_col t0 a b c) (own_at (own_bind nb v0 v1 (own_col b0 a b c) (own_col b1 a b c) [d, e, i2, i3]) u0)) (own_p nt 2 (own_col t1 a b c) (own_at (own_bind nb v0 v1 (own_col b0 a b c) (own_col b1 a b c) [d, e, i2, i3]) u1))))]
      obtain ⟨L, hL⟩ : ∃ L : List Int32, L = (own_bind nb v0 v1 (own_col b0 a b c) (own_col b1 a b c) [d, e, i2, i3]) := ⟨_, rfl⟩
      have hL4 : L.length = 4 := by rw [hL, own_bind_len]; rfl
      rw [← hL]
      show W _ _ _ _ _ _ 18 188 [(h, (ShHB Z (.ref t) (.ref co) (.ref bc) (.ref bs) (.ref tc) (.ref tl) (.ref tu))), (bc, (IA Z .int (own_arr nb b0 b1))), (bs, (IA Z .int (own_arr nb v0 v1))), (tc, (IA Z .int (own_arr nt t0 t1))), (tl, (IA Z .int (own_arr nt u0 u1))), (tu, (IA Z .int [a, b, c])), (sl, (IA Z .int L)), (ex, (IA Z .int [d, e, i2, i3])), (co, (IA Z .int [0, 1, 2])), (va, (IA Z .int [a, b, c])), (t, (ShT3 Z (.int (3 : Int32))))] 279 #[.val (.int a), .val (.int b), .val (.int c), .val (.int d), .val (.int e), .val (.int sel), .val (.int nb), .val (.int b0), .val (.int b1), .val (.int nt), .val (.int t0), .val (.int t1), .val (.int u0), .val (.int u1), .val (.int i2), .val (.int i3), .val (.int v0), .val (.int v1), .val (.ref t), .val (.ref h), .val (.ref sl), .val (.ref ex), .unset, .unset, .unset, .unset] [(.int (own_and (own_p nt 1 (own_col t0 a b c) (own_at L u0)) (own_p nt 2 (own_col t1 a b c) (own_at L u1))))]
      obtain ⟨got, h_got⟩ : ∃ got : Int32, got = (own_and (own_p nt 1 (own_col t0 a b c) (own_at L u0)) (own_p nt 2 (own_col t1 a b c) (own_at L u1))) := ⟨_, rfl⟩
      rw [← h_got]
      refine W.istore #[.val (.int a), .val (.int b), .val (.int c), .val (.int d), .val (.int e), .val (.int sel), .val (.int nb), .val (.int b0), .val (.int b1), .val (.int nt), .val (.int t0), .val (.int t1), .val (.int u0), .val (.int u1), .val (.int i2), .val (.int i3), .val (.int v0), .val (.int v1), .val (.ref t), .val (.ref h), .val (.ref sl), .val (.ref ex), .val (.int got), .unset, .unset, .unset] at_279 (pc' := 281) rfl rfl ?_
      refine W.iload at_281 (pc' := 283) rfl rfl ?_
      refine W.iconst (1 : Int32) at_283 (pc' := 284) rfl rfl ?_
      have j300 : ∀ (x1 : List Int32) (_ : x1 = own_b1 nb v0 (own_col b0 a b c) [d, e, i2, i3]), W l Z n0 (x.cls, x.name, code, maxLocals, ret) room_1 (fun v _ => v = some (.int 1)) 18 188 [(h, (ShHB Z (.ref t) (.ref co) (.ref bc) (.ref bs) (.ref tc) (.ref tl) (.ref tu))), (bc, (IA Z .int (own_arr nb b0 b1))), (bs, (IA Z .int (own_arr nb v0 v1))), (tc, (IA Z .int (own_arr nt t0 t1))), (tl, (IA Z .int (own_arr nt u0 u1))), (tu, (IA Z .int [a, b, c])), (sl, (IA Z .int L)), (ex, (IA Z .int x1)), (co, (IA Z .int [0, 1, 2])), (va, (IA Z .int [a, b, c])), (t, (ShT3 Z (.int (3 : Int32))))] 300 #[.val (.int a), .val (.int b), .val (.int c), .val (.int d), .val (.int e), .val (.int sel), .val (.int nb), .val (.int b0), .val (.int b1), .val (.int nt), .val (.int t0), .val (.int t1), .val (.int u0), .val (.int u1), .val (.int i2), .val (.int i3), .val (.int v0), .val (.int v1), .val (.ref t), .val (.ref h), .val (.ref sl), .val (.ref ex), .val (.int got), .unset, .unset, .unset] [] := by
        intro x1 hx1
        have l1 : x1.length = 4 := by rw [hx1, own_b1_len]; rfl
        refine W.iload at_300 (pc' := 302) rfl rfl ?_
        refine W.iconst (2 : Int32) at_302 (pc' := 303) rfl rfl ?_
        have j319 : ∀ (x2 : List Int32) (_ : x2 = L), W l Z n0 (x.cls, x.name, code, maxLocals, ret) room_1 (fun v _ => v = some (.int 1)) 18 188 [(h, (ShHB Z (.ref t) (.ref co) (.ref bc) (.ref bs) (.ref tc) (.ref tl) (.ref tu))), (bc, (IA Z .int (own_arr nb b0 b1))), (bs, (IA Z .int (own_arr nb v0 v1))), (tc, (IA Z .int (own_arr nt t0 t1))), (tl, (IA Z .int (own_arr nt u0 u1))), (tu, (IA Z .int [a, b, c])), (sl, (IA Z .int L)), (ex, (IA Z .int x2)), (co, (IA Z .int [0, 1, 2])), (va, (IA Z .int [a, b, c])), (t, (ShT3 Z (.int (3 : Int32))))] 319 #[.val (.int a), .val (.int b), .val (.int c), .val (.int d), .val (.int e), .val (.int sel), .val (.int nb), .val (.int b0), .val (.int b1), .val (.int nt), .val (.int t0), .val (.int t1), .val (.int u0), .val (.int u1), .val (.int i2), .val (.int i3), .val (.int v0), .val (.int v1), .val (.ref t), .val (.ref h), .val (.ref sl), .val (.ref ex), .val (.int got), .unset, .unset, .unset] [] := by
          rintro x2 rfl
          have hL4 := hL4
          show W _ _ _ _ _ _ 18 188 [(h, (ShHB Z (.ref t) (.ref co) (.ref bc) (.ref bs) (.ref tc) (.ref tl) (.ref tu))), (bc, (IA Z .int (own_arr nb b0 b1))), (bs, (IA Z .int (own_arr nb v0 v1))), (tc, (IA Z .int (own_arr nt t0 t1))), (tl, (IA Z .int (own_arr nt u0 u1))), (tu, (IA Z .int [a, b, c])), (sl, (IA Z .int x2)), (ex, (IA Z .int x2)), (co, (IA Z .int [0, 1, 2])), (va, (IA Z .int [a, b, c])), (t, (ShT3 Z (.int (3 : Int32))))] 319 #[.val (.int a), .val (.int b), .val (.int c), .val (.int d), .val (.int e), .val (.int sel), .val (.int nb), .val (.int b0), .val (.int b1), .val (.int nt), .val (.int t0), .val (.int t1), .val (.int u0), .val (.int u1), .val (.int i2), .val (.int i3), .val (.int v0), .val (.int v1), .val (.ref t), .val (.ref h), .val (.ref sl), .val (.ref ex), .val (.int got), .unset, .unset, .unset] []
          refine W.iload at_319 (pc' := 321) rfl rfl ?_
          refine W.iconst (1 : Int32) at_321 (pc' := 322) rfl rfl ?_
          have j346 : ∀ (p0 : Int32) (_ : p0 = own_p nt 1 (own_col t0 a b c) (own_at x2 u0)), W l Z n0 (x.cls, x.name, code, maxLocals, ret) room_1 (fun v _ => v = some (.int 1)) 18 188 [(h, (ShHB Z (.ref t) (.ref co) (.ref bc) (.ref bs) (.ref tc) (.ref tl) (.ref tu))), (bc, (IA Z .int (own_arr nb b0 b1))), (bs, (IA Z .int (own_arr nb v0 v1))), (tc, (IA Z .int (own_arr nt t0 t1))), (tl, (IA Z .int (own_arr nt u0 u1))), (tu, (IA Z .int [a, b, c])), (sl, (IA Z .int x2)), (ex, (IA Z .int x2)), (co, (IA Z .int [0, 1, 2])), (va, (IA Z .int [a, b, c])), (t, (ShT3 Z (.int (3 : Int32))))] 346 #[.val (.int a), .val (.int b), .val (.int c), .val (.int d), .val (.int e), .val (.int sel), .val (.int nb), .val (.int b0), .val (.int b1), .val (.int nt), .val (.int t0), .val (.int t1), .val (.int u0), .val (.int u1), .val (.int i2), .val (.int i3), .val (.int v0), .val (.int v1), .val (.ref t), .val (.ref h), .val (.ref sl), .val (.ref ex), .val (.int got), .unset, .unset, .unset] [(.int p0)] := by
            intro p0 h_p0
            refine W.istore #[.val (.int a), .val (.int b), .val (.int c), .val (.int d), .val (.int e), .val (.int sel), .val (.int nb), .val (.int b0), .val (.int b1), .val (.int nt), .val (.int t0), .val (.int t1), .val (.int u0), .val (.int u1), .val (.int i2), .val (.int i3), .val (.int v0), .val (.int v1), .val (.ref t), .val (.ref h), .val (.ref sl), .val (.ref ex), .val (.int got), .val (.int p0), .unset, .unset] at_346 (pc' := 348) rfl rfl ?_
            refine W.iload at_348 (pc' := 350) rfl rfl ?_
            refine W.iconst (2 : Int32) at_350 (pc' := 351) rfl rfl ?_
            have j375 : ∀ (p1 : Int32) (_ : p1 = own_p nt 2 (own_col t1 a b c) (own_at x2 u1)), W l Z n0 (x.cls, x.name, code, maxLocals, ret) room_1 (fun v _ => v = some (.int 1)) 18 188 [(h, (ShHB Z (.ref t) (.ref co) (.ref bc) (.ref bs) (.ref tc) (.ref tl) (.ref tu))), (bc, (IA Z .int (own_arr nb b0 b1))), (bs, (IA Z .int (own_arr nb v0 v1))), (tc, (IA Z .int (own_arr nt t0 t1))), (tl, (IA Z .int (own_arr nt u0 u1))), (tu, (IA Z .int [a, b, c])), (sl, (IA Z .int x2)), (ex, (IA Z .int x2)), (co, (IA Z .int [0, 1, 2])), (va, (IA Z .int [a, b, c])), (t, (ShT3 Z (.int (3 : Int32))))] 375 #[.val (.int a), .val (.int b), .val (.int c), .val (.int d), .val (.int e), .val (.int sel), .val (.int nb), .val (.int b0), .val (.int b1), .val (.int nt), .val (.int t0), .val (.int t1), .val (.int u0), .val (.int u1), .val (.int i2), .val (.int i3), .val (.int v0), .val (.int v1), .val (.ref t), .val (.ref h), .val (.ref sl), .val (.ref ex), .val (.int got), .val (.int p0), .unset, .unset] [(.int p1)] := by
              intro p1 h_p1
              refine W.istore #[.val (.int a), .val (.int b), .val (.int c), .val (.int d), .val (.int e), .val (.int sel), .val (.int nb), .val (.int b0), .val (.int b1), .val (.int nt), .val (.int t0), .val (.int t1), .val (.int u0), .val (.int u1), .val (.int i2), .val (.int i3), .val (.int v0), .val (.int v1), .val (.ref t), .val (.ref h), .val (.ref sl), .val (.ref ex), .val (.int got), .val (.int p0), .val (.int p1), .unset] at_375 (pc' := 377) rfl rfl ?_
              refine W.iload at_377 (pc' := 379) rfl rfl ?_
              have j392 : ∀ (ee : Int32) (_ : ee = own_and p0 p1), W l Z n0 (x.cls, x.name, code, maxLocals, ret) room_1 (fun v _ => v = some (.int 1)) 18 188 [(h, (ShHB Z (.ref t) (.ref co) (.ref bc) (.ref bs) (.ref tc) (.ref tl) (.ref tu))), (bc, (IA Z .int (own_arr nb b0 b1))), (bs, (IA Z .int (own_arr nb v0 v1))), (tc, (IA Z .int (own_arr nt t0 t1))), (tl, (IA Z .int (own_arr nt u0 u1))), (tu, (IA Z .int [a, b, c])), (sl, (IA Z .int x2)), (ex, (IA Z .int x2)), (co, (IA Z .int [0, 1, 2])), (va, (IA Z .int [a, b, c])), (t, (ShT3 Z (.int (3 : Int32))))] 392 #[.val (.int a), .val (.int b), .val (.int c), .val (.int d), .val (.int e), .val (.int sel), .val (.int nb), .val (.int b0), .val (.int b1), .val (.int nt), .val (.int t0), .val (.int t1), .val (.int u0), .val (.int u1), .val (.int i2), .val (.int i3), .val (.int v0), .val (.int v1), .val (.ref t), .val (.ref h), .val (.ref sl), .val (.ref ex), .val (.int got), .val (.int p0), .val (.int p1), .unset] [(.int ee)] := by
                intro ee h_ee
                refine W.istore #[.val (.int a), .val (.int b), .val (.int c), .val (.int d), .val (.int e), .val (.int sel), .val (.int nb), .val (.int b0), .val (.int b1), .val (.int nt), .val (.int t0), .val (.int t1), .val (.int u0), .val (.int u1), .val (.int i2), .val (.int i3), .val (.int v0), .val (.int v1), .val (.ref t), .val (.ref h), .val (.ref sl), .val (.ref ex), .val (.int got), .val (.int p0), .val (.int p1), .val (.int ee)] at_392 (pc' := 394) rfl rfl ?_
                refine W.iload at_394 (pc' := 396) rfl rfl ?_
                refine W.iload at_396 (pc' := 398) rfl rfl ?_
                refine W.icmpN at_398 (XT.ii_ne_f (by rw [h_got, h_ee, h_p0, h_p1])) (pc' := 401) rfl ?_
                refine W.aload at_401 (pc' := 403) rfl rfl rfl ?_
                refine W.iconst (0 : Int32) at_403 (pc' := 404) rfl rfl ?_
                refine W.iaload 6 0 at_404 rfl (by decide) rfl (own_get (by rw [hL4]; decide)) (pc' := 405) rfl ?_
                refine W.aload at_405 (pc' := 407) rfl rfl rfl ?_
                refine W.iconst (0 : Int32) at_407 (pc' := 408) rfl rfl ?_
                refine W.iaload 7 0 at_408 rfl (by decide) rfl (own_get (by rw [hL4]; decide)) (pc' := 409) rfl ?_
                refine W.icmpN at_409 (XT.ii_ne_f rfl) (pc' := 412) rfl ?_
                refine W.aload at_412 (pc' := 414) rfl rfl rfl ?_
                refine W.iconst (1 : Int32) at_414 (pc' := 415) rfl rfl ?_
                refine W.iaload 6 1 at_415 rfl (by decide) rfl (own_get (by rw [hL4]; decide)) (pc' := 416) rfl ?_
                refine W.aload at_416 (pc' := 418) rfl rfl rfl ?_
                refine W.iconst (1 : Int32) at_418 (pc' := 419) rfl rfl ?_
                refine W.iaload 7 1 at_419 rfl (by decide) rfl (own_get (by rw [hL4]; decide)) (pc' := 420) rfl ?_
                refine W.icmpN at_420 (XT.ii_ne_f rfl) (pc' := 423) rfl ?_
                refine W.aload at_423 (pc' := 425) rfl rfl rfl ?_
                refine W.iconst (2 : Int32) at_425 (pc' := 426) rfl rfl ?_
                refine W.iaload 6 2 at_426 rfl (by decide) rfl (own_get (by rw [hL4]; decide)) (pc' := 427) rfl ?_
                refine W.aload at_427 (pc' := 429) rfl rfl rfl ?_
                refine W.iconst (2 : Int32) at_429 (pc' := 430) rfl rfl ?_
                refine W.iaload 7 2 at_430 rfl (by decide) rfl (own_get (by rw [hL4]; decide)) (pc' := 431) rfl ?_
                refine W.icmpN at_431 (XT.ii_ne_f rfl) (pc' := 434) rfl ?_
                refine W.aload at_434 (pc' := 436) rfl rfl rfl ?_
                refine W.iconst (3 : Int32) at_436 (pc' := 437) rfl rfl ?_
                refine W.iaload 6 3 at_437 rfl (by decide) rfl (own_get (by rw [hL4]; decide)) (pc' := 438) rfl ?_
                refine W.aload at_438 (pc' := 440) rfl rfl rfl ?_
                refine W.iconst (3 : Int32) at_440 (pc' := 441) rfl rfl ?_
                refine W.iaload 7 3 at_441 rfl (by decide) rfl (own_get (by rw [hL4]; decide)) (pc' := 442) rfl ?_
                refine W.icmpN at_442 (XT.ii_ne_f rfl) (pc' := 445) rfl ?_
                refine W.iconst (1 : Int32) at_445 (pc' := 446) rfl rfl ?_
                refine W.goto at_446 (pc' := 450) (by decide) rfl ?_
                exact W.retN (t := .boolean) 1 at_450 rfl (by simp) rfl (by decide) (by decide) rfl
              by_cases g5 : p0 = 0
              · refine W.ifY at_379 (XT.i0_eq_t g5) (by decide) (pc' := 391) rfl ?_
                refine W.iconst (0 : Int32) at_391 (pc' := 392) rfl rfl ?_
                exact j392 _ (by simp [own_and, g5])
              · refine W.ifN at_379 (XT.i0_eq_f g5) (pc' := 382) rfl ?_
                refine W.iload at_382 (pc' := 384) rfl rfl ?_
                by_cases g6 : p1 = 0
                · refine W.ifY at_384 (XT.i0_eq_t g6) (by decide) (pc' := 391) rfl ?_
                  refine W.iconst (0 : Int32) at_391 (pc' := 392) rfl rfl ?_
                  exact j392 _ (by simp [own_and, g5, g6])
                · refine W.ifN at_384 (XT.i0_eq_f g6) (pc' := 387) rfl ?_
                  refine W.iconst (1 : Int32) at_387 (pc' := 388) rfl rfl ?_
                  refine W.goto at_388 (pc' := 392) (by decide) rfl ?_
                  exact j392 _ (by simp [own_and, g5, g6])
            by_cases f1 : nt < (2 : Int32)
            · refine W.icmpY at_351 (XT.ii_lt_t f1) (by decide) (pc' := 370) rfl ?_
              refine W.iconst (1 : Int32) at_370 (pc' := 371) rfl rfl ?_
              refine W.goto at_371 (pc' := 375) (by decide) rfl ?_
              exact j375 _ (by simp [own_p, f1])
            · refine W.icmpN at_351 (XT.ii_lt_f f1) (pc' := 354) rfl ?_
              refine W.iload at_354 (pc' := 356) rfl rfl ?_
              refine W.iloadN at_356 (pc' := 357) rfl rfl ?_
              refine W.iloadN at_357 (pc' := 358) rfl rfl ?_
              refine W.iloadN at_358 (pc' := 359) rfl rfl ?_
              refine W.callS (mCol l Z n0 a0 hw [(h, (ShHB Z (.ref t) (.ref co) (.ref bc) (.ref bs) (.ref tc) (.ref tl) (.ref tu))), (bc, (IA Z .int (own_arr nb b0 b1))), (bs, (IA Z .int (own_arr nb v0 v1))), (tc, (IA Z .int (own_arr nt t0 t1))), (tl, (IA Z .int (own_arr nt u0 u1))), (tu, (IA Z .int [a, b, c])), (sl, (IA Z .int x2)), (ex, (IA Z .int x2)), (co, (IA Z .int [0, 1, 2])), (va, (IA Z .int [a, b, c])), (t, (ShT3 Z (.int (3 : Int32))))] t1 a b c) at_359 (wd hw 118 rfl) (wd hw 119 rfl) (wd hw 73 rfl) (wd hw 120 rfl) (by decide) pd7 rfl rfl (Nat.le_of_ble_eq_true rfl) (Nat.le_of_ble_eq_true rfl) (Nat.le_of_ble_eq_true rfl) (Nat.le_of_ble_eq_true rfl) rfl (pc' := 362) rfl ?_
              intro v9 s9 q9
              rw [q9.1, q9.2]
              clear q9 v9 s9
              show W _ _ _ _ _ _ 18 188 [(h, (ShHB Z (.ref t) (.ref co) (.ref bc) (.ref bs) (.ref tc) (.ref tl) (.ref tu))), (bc, (IA Z .int (own_arr nb b0 b1))), (bs, (IA Z .int (own_arr nb v0 v1))), (tc, (IA Z .int (own_arr nt t0 t1))), (tl, (IA Z .int (own_arr nt u0 u1))), (tu, (IA Z .int [a, b, c])), (sl, (IA Z .int x2)), (ex, (IA Z .int x2)), (co, (IA Z .int [0, 1, 2])), (va, (IA Z .int [a, b, c])), (t, (ShT3 Z (.int (3 : Int32))))] 362 #[.val (.int a), .val (.int b), .val (.int c), .val (.int d), .val (.int e), .val (.int sel), .val (.int nb), .val (.int b0), .val (.int b1), .val (.int nt), .val (.int t0), .val (.int t1), .val (.int u0), .val (.int u1), .val (.int i2), .val (.int i3), .val (.int v0), .val (.int v1), .val (.ref t), .val (.ref h), .val (.ref sl), .val (.ref ex), .val (.int got), .val (.int p0), .unset, .unset] [(.int (own_col t1 a b c))]
              refine W.aload at_362 (pc' := 364) rfl rfl rfl ?_
              refine W.iload at_364 (pc' := 366) rfl rfl ?_
              refine W.iaload 7 u1.toNatClampNeg at_366 rfl k_u1.1 rfl (own_get (by rw [hL4]; exact k_u1.2)) (pc' := 367) rfl ?_
              by_cases e1 : (own_col t1 a b c) = (own_at x2 u1)
              · refine W.icmpN at_367 (XT.ii_ne_f e1) (pc' := 370) rfl ?_
                refine W.iconst (1 : Int32) at_370 (pc' := 371) rfl rfl ?_
                refine W.goto at_371 (pc' := 375) (by decide) rfl ?_
                exact j375 _ (by simp [own_p, f1, e1])
              · refine W.icmpY at_367 (XT.ii_ne_t e1) (by decide) (pc' := 374) rfl ?_
                refine W.iconst (0 : Int32) at_374 (pc' := 375) rfl rfl ?_
                exact j375 _ (by simp [own_p, f1, e1])
          by_cases f0 : nt < (1 : Int32)
          · refine W.icmpY at_322 (XT.ii_lt_t f0) (by decide) (pc' := 341) rfl ?_
            refine W.iconst (1 : Int32) at_341 (pc' := 342) rfl rfl ?_
            refine W.goto at_342 (pc' := 346) (by decide) rfl ?_
            exact j346 _ (by simp [own_p, f0])
          · refine W.icmpN at_322 (XT.ii_lt_f f0) (pc' := 325) rfl ?_
            refine W.iload at_325 (pc' := 327) rfl rfl ?_
            refine W.iloadN at_327 (pc' := 328) rfl rfl ?_
            refine W.iloadN at_328 (pc' := 329) rfl rfl ?_
            refine W.iloadN at_329 (pc' := 330) rfl rfl ?_
            refine W.callS (mCol l Z n0 a0 hw [(h, (ShHB Z (.ref t) (.ref co) (.ref bc) (.ref bs) (.ref tc) (.ref tl) (.ref tu))), (bc, (IA Z .int (own_arr nb b0 b1))), (bs, (IA Z .int (own_arr nb v0 v1))), (tc, (IA Z .int (own_arr nt t0 t1))), (tl, (IA Z .int (own_arr nt u0 u1))), (tu, (IA Z .int [a, b, c])), (sl, (IA Z .int x2)), (ex, (IA Z .int x2)), (co, (IA Z .int [0, 1, 2])), (va, (IA Z .int [a, b, c])), (t, (ShT3 Z (.int (3 : Int32))))] t0 a b c) at_330 (wd hw 118 rfl) (wd hw 119 rfl) (wd hw 73 rfl) (wd hw 120 rfl) (by decide) pd7 rfl rfl (Nat.le_of_ble_eq_true rfl) (Nat.le_of_ble_eq_true rfl) (Nat.le_of_ble_eq_true rfl) (Nat.le_of_ble_eq_true rfl) rfl (pc' := 333) rfl ?_
            intro v9 s9 q9
            rw [q9.1, q9.2]
            clear q9 v9 s9
            show W _ _ _ _ _ _ 18 188 [(h, (ShHB Z (.ref t) (.ref co) (.ref bc) (.ref bs) (.ref tc) (.ref tl) (.ref tu))), (bc, (IA Z .int (own_arr nb b0 b1))), (bs, (IA Z .int (own_arr nb v0 v1))), (tc, (IA Z .int (own_arr nt t0 t1))), (tl, (IA Z .int (own_arr nt u0 u1))), (tu, (IA Z .int [a, b, c])), (sl, (IA Z .int x2)), (ex, (IA Z .int x2)), (co, (IA Z .int [0, 1, 2])), (va, (IA Z .int [a, b, c])), (t, (ShT3 Z (.int (3 : Int32))))] 333 #[.val (.int a), .val (.int b), .val (.int c), .val (.int d), .val (.int e), .val (.int sel), .val (.int nb), .val (.int b0), .val (.int b1), .val (.int nt), .val (.int t0), .val (.int t1), .val (.int u0), .val (.int u1), .val (.int i2), .val (.int i3), .val (.int v0), .val (.int v1), .val (.ref t), .val (.ref h), .val (.ref sl), .val (.ref ex), .val (.int got), .unset, .unset, .unset] [(.int (own_col t0 a b c))]
            refine W.aload at_333 (pc' := 335) rfl rfl rfl ?_
            refine W.iload at_335 (pc' := 337) rfl rfl ?_
            refine W.iaload 7 u0.toNatClampNeg at_337 rfl k_u0.1 rfl (own_get (by rw [hL4]; exact k_u0.2)) (pc' := 338) rfl ?_
            by_cases e0 : (own_col t0 a b c) = (own_at x2 u0)
            · refine W.icmpN at_338 (XT.ii_ne_f e0) (pc' := 341) rfl ?_
              refine W.iconst (1 : Int32) at_341 (pc' := 342) rfl rfl ?_
              refine W.goto at_342 (pc' := 346) (by decide) rfl ?_
              exact j346 _ (by simp [own_p, f0, e0])
            · refine W.icmpY at_338 (XT.ii_ne_t e0) (by decide) (pc' := 345) rfl ?_
              refine W.iconst (0 : Int32) at_345 (pc' := 346) rfl rfl ?_
              exact j346 _ (by simp [own_p, f0, e0])
        by_cases g4 : nb < (2 : Int32)
        · refine W.icmpY at_303 (XT.ii_lt_t g4) (by decide) (pc' := 319) rfl ?_
          exact j319 _ (by rw [hL, hx1]; simp [own_bind, g4])
        · refine W.icmpN at_303 (XT.ii_lt_f g4) (pc' := 306) rfl ?_
          refine W.aload at_306 (pc' := 308) rfl rfl rfl ?_
          refine W.iload at_308 (pc' := 310) rfl rfl ?_
          refine W.iload at_310 (pc' := 312) rfl rfl ?_
          refine W.iloadN at_312 (pc' := 313) rfl rfl ?_
          refine W.iloadN at_313 (pc' := 314) rfl rfl ?_
          refine W.iloadN at_314 (pc' := 315) rfl rfl ?_
          refine W.callS (mCol l Z n0 a0 hw [(h, (ShHB Z (.ref t) (.ref co) (.ref bc) (.ref bs) (.ref tc) (.ref tl) (.ref tu))), (bc, (IA Z .int (own_arr nb b0 b1))), (bs, (IA Z .int (own_arr nb v0 v1))), (tc, (IA Z .int (own_arr nt t0 t1))), (tl, (IA Z .int (own_arr nt u0 u1))), (tu, (IA Z .int [a, b, c])), (sl, (IA Z .int L)), (ex, (IA Z .int x1)), (co, (IA Z .int [0, 1, 2])), (va, (IA Z .int [a, b, c])), (t, (ShT3 Z (.int (3 : Int32))))] b1 a b c) at_315 (wd hw 118 rfl) (wd hw 119 rfl) (wd hw 73 rfl) (wd hw 120 rfl) (by decide) pd7 rfl rfl (Nat.le_of_ble_eq_true rfl) (Nat.le_of_ble_eq_true rfl) (Nat.le_of_ble_eq_true rfl) (Nat.le_of_ble_eq_true rfl) rfl (pc' := 318) rfl ?_
          intro v9 s9 q9
          rw [q9.1, q9.2]
          clear q9 v9 s9
          show W _ _ _ _ _ _ 18 188 [(h, (ShHB Z (.ref t) (.ref co) (.ref bc) (.ref bs) (.ref tc) (.ref tl) (.ref tu))), (bc, (IA Z .int (own_arr nb b0 b1))), (bs, (IA Z .int (own_arr nb v0 v1))), (tc, (IA Z .int (own_arr nt t0 t1))), (tl, (IA Z .int (own_arr nt u0 u1))), (tu, (IA Z .int [a, b, c])), (sl, (IA Z .int L)), (ex, (IA Z .int x1)), (co, (IA Z .int [0, 1, 2])), (va, (IA Z .int [a, b, c])), (t, (ShT3 Z (.int (3 : Int32))))] 318 #[.val (.int a), .val (.int b), .val (.int c), .val (.int d), .val (.int e), .val (.int sel), .val (.int nb), .val (.int b0), .val (.int b1), .val (.int nt), .val (.int t0), .val (.int t1), .val (.int u0), .val (.int u1), .val (.int i2), .val (.int i3), .val (.int v0), .val (.int v1), .val (.ref t), .val (.ref h), .val (.ref sl), .val (.ref ex), .val (.int got), .unset, .unset, .unset] [(.int (own_col b1 a b c)), (.int v1), (.ref ex)]
          refine W.iastore [(h, (ShHB Z (.ref t) (.ref co) (.ref bc) (.ref bs) (.ref tc) (.ref tl) (.ref tu))), (bc, (IA Z .int (own_arr nb b0 b1))), (bs, (IA Z .int (own_arr nb v0 v1))), (tc, (IA Z .int (own_arr nt t0 t1))), (tl, (IA Z .int (own_arr nt u0 u1))), (tu, (IA Z .int [a, b, c])), (sl, (IA Z .int L)), (ex, (IA Z .int (x1.set v1.toNatClampNeg (own_col b1 a b c)))), (co, (IA Z .int [0, 1, 2])), (va, (IA Z .int [a, b, c])), (t, (ShT3 Z (.int (3 : Int32))))] 7 v1.toNatClampNeg at_318 rfl k_v1.1 rfl (by rw [l1]; exact k_v1.2) rfl (pc' := 319) rfl ?_
          exact j319 _ (by rw [hL, hx1]; simp [own_bind, g4])
      by_cases g3 : nb < (1 : Int32)
      · refine W.icmpY at_284 (XT.ii_lt_t g3) (by decide) (pc' := 300) rfl ?_
        exact j300 _ (by simp [own_b1, g3])
      · refine W.icmpN at_284 (XT.ii_lt_f g3) (pc' := 287) rfl ?_
        refine W.aload at_287 (pc' := 289) rfl rfl rfl ?_
        refine W.iload at_289 (pc' := 291) rfl rfl ?_
        refine W.iload at_291 (pc' := 293) rfl rfl ?_
        refine W.iloadN at_293 (pc' := 294) rfl rfl ?_
        refine W.iloadN at_294 (pc' := 295) rfl rfl ?_
        refine W.iloadN at_295 (pc' := 296) rfl rfl ?_
        refine W.callS (mCol l Z n0 a0 hw [(h, (ShHB Z (.ref t) (.ref co) (.ref bc) (.ref bs) (.ref tc) (.ref tl) (.ref tu))), (bc, (IA Z .int (own_arr nb b0 b1))), (bs, (IA Z .int (own_arr nb v0 v1))), (tc, (IA Z .int (own_arr nt t0 t1))), (tl, (IA Z .int (own_arr nt u0 u1))), (tu, (IA Z .int [a, b, c])), (sl, (IA Z .int L)), (ex, (IA Z .int [d, e, i2, i3])), (co, (IA Z .int [0, 1, 2])), (va, (IA Z .int [a, b, c])), (t, (ShT3 Z (.int (3 : Int32))))] b0 a b c) at_296 (wd hw 118 rfl) (wd hw 119 rfl) (wd hw 73 rfl) (wd hw 120 rfl) (by decide) pd7 rfl rfl (Nat.le_of_ble_eq_true rfl) (Nat.le_of_ble_eq_true rfl) (Nat.le_of_ble_eq_true rfl) (Nat.le_of_ble_eq_true rfl) rfl (pc' := 299) rfl ?_
        intro v9 s9 q9
        rw [q9.1, q9.2]
        clear q9 v9 s9
        show W _ _ _ _ _ _ 18 188 [(h, (ShHB Z (.ref t) (.ref co) (.ref bc) (.ref bs) (.ref tc) (.ref tl) (.ref tu))), (bc, (IA Z .int (own_arr nb b0 b1))), (bs, (IA Z .int (own_arr nb v0 v1))), (tc, (IA Z .int (own_arr nt t0 t1))), (tl, (IA Z .int (own_arr nt u0 u1))), (tu, (IA Z .int [a, b, c])), (sl, (IA Z .int L)), (ex, (IA Z .int [d, e, i2, i3])), (co, (IA Z .int [0, 1, 2])), (va, (IA Z .int [a, b, c])), (t, (ShT3 Z (.int (3 : Int32))))] 299 #[.val (.int a), .val (.int b), .val (.int c), .val (.int d), .val (.int e), .val (.int sel), .val (.int nb), .val (.int b0), .val (.int b1), .val (.int nt), .val (.int t0), .val (.int t1), .val (.int u0), .val (.int u1), .val (.int i2), .val (.int i3), .val (.int v0), .val (.int v1), .val (.ref t), .val (.ref h), .val (.ref sl), .val (.ref ex), .val (.int got), .unset, .unset, .unset] [(.int (own_col b0 a b c)), (.int v0), (.ref ex)]
        refine W.iastore [(h, (ShHB Z (.ref t) (.ref co) (.ref bc) (.ref bs) (.ref tc) (.ref tl) (.ref tu))), (bc, (IA Z .int (own_arr nb b0 b1))), (bs, (IA Z .int (own_arr nb v0 v1))), (tc, (IA Z .int (own_arr nt t0 t1))), (tl, (IA Z .int (own_arr nt u0 u1))), (tu, (IA Z .int [a, b, c])), (sl, (IA Z .int L)), (ex, (IA Z .int ([d, e, i2, i3].set v0.toNatClampNeg (own_col b0 a b c)))), (co, (IA Z .int [0, 1, 2])), (va, (IA Z .int [a, b, c])), (t, (ShT3 Z (.int (3 : Int32))))] 7 v0.toNatClampNeg at_299 rfl k_v0.1 rfl k_v0.2 rfl (pc' := 300) rfl ?_
        exact j300 _ (by simp [own_b1, g3])
    by_cases g2 : ((XT.ushr sel (17 : Int32)) &&& (1 : Int32)) = 0
    · refine W.ifY at_103 (XT.i0_eq_t g2) (by decide) (pc' := 110) rfl ?_
      refine W.iload at_110 (pc' := 112) rfl rfl ?_
      exact j_i3 _ (if_pos g2).symm
    · refine W.ifN at_103 (XT.i0_eq_f g2) (pc' := 106) rfl ?_
      refine W.iloadN at_106 (pc' := 107) rfl rfl ?_
      refine W.goto at_107 (pc' := 112) (by decide) rfl ?_
      exact j_i3 _ (if_neg g2).symm
  by_cases g1 : ((XT.ushr sel (16 : Int32)) &&& (1 : Int32)) = 0
  · refine W.ifY at_86 (XT.i0_eq_t g1) (by decide) (pc' := 93) rfl ?_
    refine W.iloadN at_93 (pc' := 94) rfl rfl ?_
    exact j_i2 _ (if_pos g1).symm
  · refine W.ifN at_86 (XT.i0_eq_f g1) (pc' := 89) rfl ?_
    refine W.iloadN at_89 (pc' := 90) rfl rfl ?_
    refine W.goto at_90 (pc' := 94) (by decide) rfl ?_
    exact j_i2 _ (if_neg g1).symm
set_option maxRecDepth 65536 in
set_option maxHeartbeats 40000000 in
theorem comes_1 {Post : Tables → Env → Array Value → State → Outcome → State → Prop} (hpost : ∀ tb e args s v u, (limb_1_1.after args s (.returned v) u = true ∧ limb_1_2.after args s (.returned v) u = true ∧ True) → FrameEnd s (.returned v) u (Jvm.fieldLocs frame_1_writes args s ++ Jvm.arrayLocs frame_1_arrays args s ++ Jvm.staticLocs frame_1_statics s) 48 448 → Post tb e args s (.returned v) u) :
    ArmFor flags0 classFile x code maxLocals ret World_1 tables_1 room_1 Calls_1 rest_1 Pre_1 Post := by
  intro l hfl _ _ p en ha hc hk s m args below hf hA hF happ hP
  obtain ⟨hcalls, hrest, hpre⟩ := hP
  obtain ⟨-, -, -, hnamed, -, -, -, hat⟩ := (Spec.applies_iff hf).mp happ
  obtain ⟨hg, hn⟩ := and_e (Cond.before_iff.mp (show (Jvm.Cond.and given_1 narrow_1).before args s = true from hpre))
  obtain ⟨g0, t0⟩ := and_e hg
  obtain ⟨g1, t1⟩ := and_e t0
  obtain ⟨g2, t2⟩ := and_e t1
  obtain ⟨g3, t3⟩ := and_e t2
  obtain ⟨g4, t4⟩ := and_e t3
  obtain ⟨g5, t5⟩ := and_e t4
  obtain ⟨w0, w1, w2, w3, w4, w5, rfl⟩ : ∃ w0 w1 w2 w3 w4 w5 : Value, args = #[w0, w1, w2, w3, w4, w5] := by
    have hs : args.size = 6 := by simpa [Cond.value, given_1] using g0
    obtain ⟨L⟩ := args
    match L, hs with
    | [w0, w1, w2, w3, w4, w5], _ => exact ⟨w0, w1, w2, w3, w4, w5, rfl⟩
  have hw := fun d (hd : d ∈ tables_1) => atoms_spec (ws := Jvm.Cond.code x code maxLocals ret :: tables_1) hat d (List.mem_cons_of_mem _ hd)
  obtain ⟨a, e_a⟩ := is_v g1
  obtain rfl : w0 = (.int a) := Option.some.inj e_a
  obtain ⟨b, e_b⟩ := is_v g2
  obtain rfl : w1 = (.int b) := Option.some.inj e_b
  obtain ⟨c, e_c⟩ := is_v g3
  obtain rfl : w2 = (.int c) := Option.some.inj e_c
  obtain ⟨d, e_d⟩ := is_v g4
  obtain rfl : w3 = (.int d) := Option.some.inj e_d
  obtain ⟨e, e_e⟩ := is_v g5
  obtain rfl : w4 = (.int e) := Option.some.inj e_e
  obtain ⟨sel, e_sel⟩ := is_v t5
  obtain rfl : w5 = (.int sel) := Option.some.inj e_sel
  obtain ⟨hsets, hown0⟩ := atoms_of _ (rest_1_c_eq ▸ (show rest_1_c.before _ s = true from hrest))
  obtain ⟨dx, edx⟩ := exa_v (Cond.before_iff.mp (hsets _ (List.mem_of_getElem? (i := 7) rfl)))
  have hdv : Sta s s.heap "java/util/ArrayList" "DEFAULTCAPACITY_EMPTY_ELEMENTDATA" "[Ljava/lang/Object;" (.ref dx) := Sta.start edx (Or.inr ⟨(wd hw 32 rfl), hsets _ (List.mem_of_getElem? (i := 2) rfl)⟩)
  have hsep : Sep s s.heap.size s.heap [] := ⟨Old.start s, fun _ q => absurd q (List.not_mem_nil), List.nodup_nil⟩
  obtain ⟨n, o, h1, h2, h3, _, L, rfl, ⟨⟨_, rfl, -⟩, N⟩, hq⟩ := m0 l s s.heap.size _ hw (.ref dx) rfl hdv a b c d e sel tables_1 s.heap hsep p en ha hc hk s m _ below hf ((Spec.applies_iff_loose hf).mp happ).1 ⟨rfl, State.Warmed39.refl s, rfl⟩ trivial
  refine ⟨n, _, h1, h2, h3, hpost _ _ _ _ _ _ ⟨Cond.after_iff.mpr rfl, Cond.after_iff.mpr (eq_i res_at (Term.int_eval (1)) rfl), trivial⟩ ⟨hq.1, hq.2.1, (hq.2.2.sift fun y hy => Or.inr (N y hy)).mono (by decide) (by decide)⟩⟩
theorem main_1_1 : Claimed_1_1 := comes_1 fun _ _ _ _ _ _ h hF => ⟨h.1, hF⟩
theorem main_1_2 : Claimed_1_2 := comes_1 fun _ _ _ _ _ _ h hF => ⟨h.2.1, hF⟩
end Jvm.Pilot.@@N@@
namespace Jvm.Pilot.@@N@@
open Jvm Jvm.ClassFile Sem Op Lib Jvm.Free Jvm.Stand Jvm.Pilot.@@N@@.Jvm.D
/-! MADE BY PROGRAM (witnessworld.py) out of the Statement's table words and the real class files: 26 classes; the members and pool entries that the words name. The judged class is class 1, her method 3. -/
namespace start1
open Jvm.ClassFile
def u (s : String) : CpInfo := .utf8 (stringToUtf16 s)
/-- a pool by its gaps: so many unusable entries, then the entry; so many at the end -/
def gap : Nat → List CpInfo → List CpInfo
  | 0, r => r
  | n + 1, r => .unusable :: gap n r
def poolList (es : List (Nat × CpInfo)) (last : Nat) : List CpInfo := es.foldr (fun e r => gap e.1 (e.2 :: r)) (gap last [])
def pool (es : List (Nat × CpInfo)) (last : Nat) : Array CpInfo := ⟨poolList es last⟩
def fileOf (pool : Array CpInfo) (this : Nat) (attrs : Array Attribute := #[]) (ms : Array MethodInfo := #[]) (fl : Nat := 33) (sup : Nat := 0) (ifs : Array Nat := #[]) (fds : Array FieldInfo := #[]) : ClassFile where
  minorVersion := 0
  majorVersion := 65
  constantPool := pool
  accessFlags := fl
  thisClass := this
  superClass := sup
  interfaces := ifs
  fields := fds
  methods := ms
  attributes := attrs
def plain (name : String) (sup : Option ClassId) : Class where
  name := name
  kind := .ordinary
  loader := none
  accessFlags := 33
  super := sup
  interfaces := #[]
  cf := none
  fields := #[]
  methods := #[]
  instanceTypes := #[]
  staticTypes := #[]
  resolved := #[]
  callSites := []
  init := .initialized
  statics := none
  mirror := none

def pool0 : Array CpInfo := pool [(5, u "<init>"), (0, u "()V"), (1, .class_ 10), (1, u "java/lang/Object")] 113

def k0c0 : Code := { maxStack := 0, maxLocals := 1, code := object_method_1_code, exceptionTable := #[], attributes := #[] }
def k0m0 : Method := { name := "<init>", desc := "()V", sig := { parameters := [], returnType := none }, accessFlags := 1, code := some k0c0 }
/-- java/lang/Object -/
def k0 : Class := { plain "java/lang/Object" none with
  accessFlags := 33
  interfaces := #[]
  cf := some (fileOf pool0 8 #[] #[{ accessFlags := 1, nameIndex := 5, descriptorIndex := 6, attributes := #[] }] 33 0 #[] #[])
  fields := #[]
  methods := #[k0m0]
  instanceTypes := #[]
  staticTypes := #[]
  resolved := Array.replicate 124 none
  statics := none }

def pool1 : Array CpInfo := pool [(2, .class_ 4), (1, u "java/lang/Object"), (0, u "<init>"), (0, u "()V"), (0, .class_ 8), (0, u "com/example/mendb/mendb/TupleStore"), (0, .methodref 7 10), (0, .nameAndType 5 11), (0, u "(I)V"), (0, .class_ 13), (0, u "com/example/mendb/mendb/PlanStep$HeadBinding"), (0, .methodref 15 16), (0, .class_ 17), (0, .nameAndType 18 19), (0, u "com/example/mendb/mendb/HeadBindingFirstPinLaw"), (0, u "arr"), (0, u "(III)[I"), (0, .methodref 12 21), (0, .nameAndType 5 22), (0, u "(Lcom/example/mendb/mendb/TupleStore;[I[I[I[I[I)V"), (0, .methodref 12 24), (0, .nameAndType 25 26), (0, u "bindTo"), (0, u "([I)V"), (0, .methodref 12 28), (0, .nameAndType 29 30), (0, u "first"), (0, u "([I)Z"), (0, .methodref 15 32), (0, .nameAndType 33 34), (0, u "col"), (0, u "(IIII)I"), (3, u "law"), (0, u "(IIIIII)Z")] 8

def k1m0 : Method := { name := "<init>", desc := "()V", sig := { parameters := [], returnType := none }, accessFlags := 1, code := none }
def k1c1 : Code := { maxStack := 4, maxLocals := 3, code := method_2_code, exceptionTable := #[], attributes := #[] }
def k1m1 : Method := { name := "arr", desc := "(III)[I", sig := { parameters := [.int, .int, .int], returnType := some (.array .int) }, accessFlags := 10, code := some k1c1 }
def k1c2 : Code := { maxStack := 2, maxLocals := 4, code := method_3_code, exceptionTable := #[], attributes := #[] }
def k1m2 : Method := { name := "col", desc := "(IIII)I", sig := { parameters := [.int, .int, .int, .int], returnType := some .int }, accessFlags := 10, code := some k1c2 }
def k1c3 : Code := { maxStack := 10, maxLocals := 26, code := code, exceptionTable := #[], attributes := #[] }
def k1m3 : Method := { name := "law", desc := "(IIIIII)Z", sig := { parameters := [.int, .int, .int, .int, .int, .int], returnType := some .boolean }, accessFlags := 9, code := some k1c3 }
/-- com/example/mendb/mendb/HeadBindingFirstPinLaw -/
def k1 : Class := { plain "com/example/mendb/mendb/HeadBindingFirstPinLaw" (some 0) with
  accessFlags := 49
  interfaces := #[]
  cf := some (fileOf pool1 15 #[] #[{ accessFlags := 1, nameIndex := 5, descriptorIndex := 6, attributes := #[] }, { accessFlags := 10, nameIndex := 18, descriptorIndex := 19, attributes := #[] }, { accessFlags := 10, nameIndex := 33, descriptorIndex := 34, attributes := #[] }, { accessFlags := 9, nameIndex := 38, descriptorIndex := 39, attributes := #[] }] 49 2 #[] #[])
  fields := #[]
  methods := #[k1m0, k1m1, k1m2, k1m3]
  instanceTypes := #[]
  staticTypes := #[]
  resolved := Array.replicate 48 none
  statics := none }

def pool2 : Array CpInfo := pool [(1, .methodref 2 3), (0, .class_ 4), (0, .nameAndType 5 6), (0, u "java/lang/Object"), (0, u "<init>"), (0, u "()V"), (0, .class_ 8), (0, u "com/example/mendb/mendb/TupleStore"), (0, .fieldref 7 10), (0, .nameAndType 11 12), (0, u "slots"), (0, u "[I"), (0, .class_ 14), (0, u "java/util/HashMap"), (0, .methodref 13 3), (0, .fieldref 7 17), (0, .nameAndType 18 19), (0, u "indexes"), (0, u "Ljava/util/Map;"), (0, .class_ 21), (0, u "java/util/ArrayList"), (0, .methodref 20 3), (0, .fieldref 7 24), (0, .nameAndType 25 26), (0, u "indexList"), (0, u "Ljava/util/List;"), (0, .fieldref 7 28), (0, .nameAndType 29 12), (0, u "removed"), (0, .fieldref 7 31), (0, .nameAndType 32 33), (0, u "arity"), (0, u "I"), (0, .fieldref 7 35), (0, .nameAndType 36 12), (0, u "values"), (0, .fieldref 7 38), (0, .nameAndType 39 40), (0, u "levels"), (0, u "[J"), (0, .fieldref 7 42), (0, .nameAndType 43 44), (0, u "states"), (0, u "[B"), (2, u "end"), (2, u "count"), (2, u "keepsPast"), (0, u "Z"), (2, u "past"), (0, u "[[J"), (6, u "firstAdded"), (2, u "countAtStart"), (17, u "(I)V"), (49, u "removedCount"), (13, u "stableEnd"), (2, u "deltaEnd"), (42, u "LIVE"), (0, u "B"), (2, u "CONFIRMED"), (1, u "SUSPENDED"), (1, u "LOST"), (1, u "DEAD"), (1, u "INITIAL_CAPACITY"), (6, u "()I")] 35

def k2c0 : Code := { maxStack := 3, maxLocals := 2, code := prog_127_method_1_code, exceptionTable := #[], attributes := #[] }
def k2m0 : Method := { name := "<init>", desc := "(I)V", sig := { parameters := [.int], returnType := none }, accessFlags := 0, code := some k2c0 }
def k2c1 : Code := { maxStack := 1, maxLocals := 1, code := prog_127_method_2_code, exceptionTable := #[], attributes := #[] }
def k2m1 : Method := { name := "arity", desc := "()I", sig := { parameters := [], returnType := some .int }, accessFlags := 0, code := some k2c1 }
/-- com/example/mendb/mendb/TupleStore -/
def k2 : Class := { plain "com/example/mendb/mendb/TupleStore" (some 0) with
  accessFlags := 32
  interfaces := #[]
  cf := some (fileOf pool2 7 #[] #[{ accessFlags := 0, nameIndex := 5, descriptorIndex := 86, attributes := #[] }, { accessFlags := 0, nameIndex := 32, descriptorIndex := 215, attributes := #[] }] 32 2 #[] #[{ accessFlags := 24, nameIndex := 196, descriptorIndex := 197, attributes := #[] }, { accessFlags := 24, nameIndex := 200, descriptorIndex := 197, attributes := #[] }, { accessFlags := 24, nameIndex := 202, descriptorIndex := 197, attributes := #[] }, { accessFlags := 24, nameIndex := 204, descriptorIndex := 197, attributes := #[] }, { accessFlags := 24, nameIndex := 206, descriptorIndex := 197, attributes := #[] }, { accessFlags := 26, nameIndex := 208, descriptorIndex := 33, attributes := #[] }, { accessFlags := 18, nameIndex := 32, descriptorIndex := 33, attributes := #[] }, { accessFlags := 2, nameIndex := 36, descriptorIndex := 12, attributes := #[] }, { accessFlags := 2, nameIndex := 39, descriptorIndex := 40, attributes := #[] }, { accessFlags := 2, nameIndex := 43, descriptorIndex := 44, attributes := #[] }, { accessFlags := 2, nameIndex := 57, descriptorIndex := 58, attributes := #[] }, { accessFlags := 2, nameIndex := 53, descriptorIndex := 54, attributes := #[] }, { accessFlags := 2, nameIndex := 47, descriptorIndex := 33, attributes := #[] }, { accessFlags := 2, nameIndex := 50, descriptorIndex := 33, attributes := #[] }, { accessFlags := 2, nameIndex := 68, descriptorIndex := 33, attributes := #[] }, { accessFlags := 2, nameIndex := 11, descriptorIndex := 12, attributes := #[] }, { accessFlags := 18, nameIndex := 18, descriptorIndex := 19, attributes := #[] }, { accessFlags := 18, nameIndex := 25, descriptorIndex := 26, attributes := #[] }, { accessFlags := 2, nameIndex := 150, descriptorIndex := 33, attributes := #[] }, { accessFlags := 2, nameIndex := 153, descriptorIndex := 33, attributes := #[] }, { accessFlags := 2, nameIndex := 65, descriptorIndex := 33, attributes := #[] }, { accessFlags := 2, nameIndex := 29, descriptorIndex := 12, attributes := #[] }, { accessFlags := 2, nameIndex := 136, descriptorIndex := 33, attributes := #[] }])
  fields := #[{ name := "LIVE", type := .byte, accessFlags := 24, slot := 0, constantValue := 0 }, { name := "CONFIRMED", type := .byte, accessFlags := 24, slot := 1, constantValue := 0 }, { name := "SUSPENDED", type := .byte, accessFlags := 24, slot := 2, constantValue := 0 }, { name := "LOST", type := .byte, accessFlags := 24, slot := 3, constantValue := 0 }, { name := "DEAD", type := .byte, accessFlags := 24, slot := 4, constantValue := 0 }, { name := "INITIAL_CAPACITY", type := .int, accessFlags := 26, slot := 5, constantValue := 0 }, { name := "arity", type := .int, accessFlags := 18, slot := 0, constantValue := 0 }, { name := "values", type := (.array .int), accessFlags := 2, slot := 1, constantValue := 0 }, { name := "levels", type := (.array .long), accessFlags := 2, slot := 2, constantValue := 0 }, { name := "states", type := (.array .byte), accessFlags := 2, slot := 3, constantValue := 0 }, { name := "past", type := (.array (.array .long)), accessFlags := 2, slot := 4, constantValue := 0 }, { name := "keepsPast", type := .boolean, accessFlags := 2, slot := 5, constantValue := 0 }, { name := "end", type := .int, accessFlags := 2, slot := 6, constantValue := 0 }, { name := "count", type := .int, accessFlags := 2, slot := 7, constantValue := 0 }, { name := "countAtStart", type := .int, accessFlags := 2, slot := 8, constantValue := 0 }, { name := "slots", type := (.array .int), accessFlags := 2, slot := 9, constantValue := 0 }, { name := "indexes", type := (.object "java/util/Map"), accessFlags := 18, slot := 10, constantValue := 0 }, { name := "indexList", type := (.object "java/util/List"), accessFlags := 18, slot := 11, constantValue := 0 }, { name := "stableEnd", type := .int, accessFlags := 2, slot := 12, constantValue := 0 }, { name := "deltaEnd", type := .int, accessFlags := 2, slot := 13, constantValue := 0 }, { name := "firstAdded", type := .int, accessFlags := 2, slot := 14, constantValue := 0 }, { name := "removed", type := (.array .int), accessFlags := 2, slot := 15, constantValue := 0 }, { name := "removedCount", type := .int, accessFlags := 2, slot := 16, constantValue := 0 }]
  methods := #[k2m0, k2m1]
  instanceTypes := #[.int, (.array .int), (.array .long), (.array .byte), (.array (.array .long)), .boolean, .int, .int, .int, (.array .int), (.object "java/util/Map"), (.object "java/util/List"), .int, .int, .int, (.array .int), .int]
  staticTypes := #[.byte, .byte, .byte, .byte, .byte, .int]
  resolved := Array.replicate 251 none
  statics := none }

def pool3 : Array CpInfo := pool [(2, .class_ 4), (1, u "java/util/Map"), (31, .class_ 37), (0, u "java/util/Map$Entry"), (55, .class_ 94), (0, u "java/lang/Object")] 168

/-- java/util/Map -/
def k3 : Class := { plain "java/util/Map" (some 0) with
  accessFlags := 1537
  interfaces := #[]
  cf := some (fileOf pool3 2 #[.nestMembers #[36]] #[] 1537 93 #[] #[])
  fields := #[]
  methods := #[]
  instanceTypes := #[]
  staticTypes := #[]
  resolved := Array.replicate 263 none
  statics := none }

def pool4 : Array CpInfo := pool [(1, .methodref 2 3), (0, .class_ 4), (0, .nameAndType 5 6), (0, u "java/lang/Object"), (0, u "<init>"), (0, u "()V"), (1, .class_ 10), (1, u "java/util/AbstractMap"), (42, .class_ 54), (0, u "java/util/Map"), (9, u "keySet"), (0, u "Ljava/util/Set;"), (0, .class_ 67), (0, u "java/util/AbstractMap$1"), (5, u "values"), (0, u "Ljava/util/Collection;"), (0, .class_ 76), (0, u "java/util/AbstractMap$2"), (104, .class_ 182), (0, u "java/util/AbstractMap$ViewCollection"), (0, .class_ 184), (0, u "java/util/AbstractMap$SimpleImmutableEntry"), (0, .class_ 186), (0, u "java/util/AbstractMap$SimpleEntry"), (0, .class_ 188), (0, u "java/util/AbstractMap$2$1"), (0, .class_ 190), (0, u "java/util/AbstractMap$1$1")] 5

def k4c0 : Code := { maxStack := 1, maxLocals := 1, code := jdk_71_method_1_code, exceptionTable := #[], attributes := #[] }
def k4m0 : Method := { name := "<init>", desc := "()V", sig := { parameters := [], returnType := none }, accessFlags := 4, code := some k4c0 }
/-- java/util/AbstractMap -/
def k4 : Class := { plain "java/util/AbstractMap" (some 0) with
  accessFlags := 1057
  interfaces := #[3]
  cf := some (fileOf pool4 8 #[.nestMembers #[181, 183, 185, 75, 187, 66, 189]] #[{ accessFlags := 4, nameIndex := 5, descriptorIndex := 6, attributes := #[] }] 1057 2 #[53] #[{ accessFlags := 128, nameIndex := 64, descriptorIndex := 65, attributes := #[] }, { accessFlags := 128, nameIndex := 73, descriptorIndex := 74, attributes := #[] }])
  fields := #[{ name := "keySet", type := (.object "java/util/Set"), accessFlags := 128, slot := 0, constantValue := 0 }, { name := "values", type := (.object "java/util/Collection"), accessFlags := 128, slot := 1, constantValue := 0 }]
  methods := #[k4m0]
  instanceTypes := #[(.object "java/util/Set"), (.object "java/util/Collection")]
  staticTypes := #[]
  resolved := Array.replicate 196 none
  statics := none }

def pool5 : Array CpInfo := pool [(1, .class_ 2), (0, u "java/lang/Cloneable"), (0, .class_ 4), (0, u "java/lang/Object")] 2

/-- java/lang/Cloneable -/
def k5 : Class := { plain "java/lang/Cloneable" (some 0) with
  accessFlags := 1537
  interfaces := #[]
  cf := some (fileOf pool5 1 #[] #[] 1537 3 #[] #[])
  fields := #[]
  methods := #[]
  instanceTypes := #[]
  staticTypes := #[]
  resolved := Array.replicate 7 none
  statics := none }

def pool6 : Array CpInfo := pool [(1, .class_ 2), (0, u "java/io/Serializable"), (0, .class_ 4), (0, u "java/lang/Object")] 2

/-- java/io/Serializable -/
def k6 : Class := { plain "java/io/Serializable" (some 0) with
  accessFlags := 1537
  interfaces := #[]
  cf := some (fileOf pool6 1 #[] #[] 1537 3 #[] #[])
  fields := #[]
  methods := #[]
  instanceTypes := #[]
  staticTypes := #[]
  resolved := Array.replicate 7 none
  statics := none }

def pool7 : Array CpInfo := pool [(40, .class_ 41), (0, u "java/util/HashMap"), (1, .methodref 44 45), (0, .class_ 46), (0, .nameAndType 47 48), (0, u "java/util/AbstractMap"), (0, u "<init>"), (0, u "()V"), (32, .fieldref 40 82), (0, .nameAndType 83 84), (0, u "loadFactor"), (0, u "F"), (5, u "threshold"), (0, u "I"), (0, .float 1061158912), (8, .class_ 103), (1, u "java/util/Map"), (0, u "size"), (2, u "table"), (0, u "[Ljava/util/HashMap$Node;"), (14, u "entrySet"), (39, .class_ 165), (1, u "java/util/HashMap$Node"), (14, .class_ 181), (0, u "java/util/HashMap$TreeNode"), (22, u "modCount"), (37, u "Ljava/util/Set;"), (0, .class_ 244), (0, u "java/util/HashMap$KeySet"), (18, .class_ 264), (0, u "java/util/HashMap$Values"), (3, .class_ 269), (0, u "java/util/HashMap$EntrySet"), (76, .class_ 348), (1, u "java/util/HashMap$UnsafeHolder"), (43, .class_ 393), (0, u "java/lang/Cloneable"), (0, .class_ 395), (0, u "java/io/Serializable"), (0, u "serialVersionUID"), (0, u "J"), (3, u "DEFAULT_INITIAL_CAPACITY"), (1, u "MAXIMUM_CAPACITY"), (0, u "DEFAULT_LOAD_FACTOR"), (0, u "TREEIFY_THRESHOLD"), (1, u "UNTREEIFY_THRESHOLD"), (1, u "MIN_TREEIFY_CAPACITY"), (186, .class_ 597), (0, u "java/util/HashMap$EntrySpliterator"), (0, .class_ 599), (0, u "java/util/HashMap$ValueSpliterator"), (0, .class_ 601), (0, u "java/util/HashMap$KeySpliterator"), (0, .class_ 603), (0, u "java/util/HashMap$HashMapSpliterator"), (0, .class_ 605), (0, u "java/util/HashMap$EntryIterator"), (0, .class_ 607), (0, u "java/util/HashMap$ValueIterator"), (0, .class_ 609), (0, u "java/util/HashMap$KeyIterator"), (0, .class_ 611), (0, u "java/util/HashMap$HashIterator")] 17

def k7c0 : Code := { maxStack := 2, maxLocals := 1, code := jdk_69_method_7_code, exceptionTable := #[], attributes := #[] }
def k7m0 : Method := { name := "<init>", desc := "()V", sig := { parameters := [], returnType := none }, accessFlags := 1, code := some k7c0 }
/-- java/util/HashMap -/
def k7 : Class := { plain "java/util/HashMap" (some 4) with
  accessFlags := 33
  interfaces := #[3, 5, 6]
  cf := some (fileOf pool7 40 #[.nestMembers #[180, 596, 598, 600, 602, 604, 606, 608, 610, 346, 268, 263, 243, 163]] #[{ accessFlags := 1, nameIndex := 47, descriptorIndex := 48, attributes := #[] }] 33 44 #[101, 392, 394] #[{ accessFlags := 26, nameIndex := 396, descriptorIndex := 397, attributes := #[] }, { accessFlags := 24, nameIndex := 401, descriptorIndex := 91, attributes := #[] }, { accessFlags := 24, nameIndex := 403, descriptorIndex := 91, attributes := #[] }, { accessFlags := 24, nameIndex := 404, descriptorIndex := 84, attributes := #[] }, { accessFlags := 24, nameIndex := 405, descriptorIndex := 91, attributes := #[] }, { accessFlags := 24, nameIndex := 407, descriptorIndex := 91, attributes := #[] }, { accessFlags := 24, nameIndex := 409, descriptorIndex := 91, attributes := #[] }, { accessFlags := 128, nameIndex := 107, descriptorIndex := 108, attributes := #[] }, { accessFlags := 128, nameIndex := 123, descriptorIndex := 242, attributes := #[] }, { accessFlags := 128, nameIndex := 104, descriptorIndex := 91, attributes := #[] }, { accessFlags := 128, nameIndex := 204, descriptorIndex := 91, attributes := #[] }, { accessFlags := 0, nameIndex := 90, descriptorIndex := 91, attributes := #[] }, { accessFlags := 16, nameIndex := 83, descriptorIndex := 84, attributes := #[] }])
  fields := #[{ name := "serialVersionUID", type := .long, accessFlags := 26, slot := 0, constantValue := 0 }, { name := "DEFAULT_INITIAL_CAPACITY", type := .int, accessFlags := 24, slot := 1, constantValue := 0 }, { name := "MAXIMUM_CAPACITY", type := .int, accessFlags := 24, slot := 2, constantValue := 0 }, { name := "DEFAULT_LOAD_FACTOR", type := .float, accessFlags := 24, slot := 3, constantValue := 0 }, { name := "TREEIFY_THRESHOLD", type := .int, accessFlags := 24, slot := 4, constantValue := 0 }, { name := "UNTREEIFY_THRESHOLD", type := .int, accessFlags := 24, slot := 5, constantValue := 0 }, { name := "MIN_TREEIFY_CAPACITY", type := .int, accessFlags := 24, slot := 6, constantValue := 0 }, { name := "table", type := (.array (.object "java/util/HashMap$Node")), accessFlags := 128, slot := 2, constantValue := 0 }, { name := "entrySet", type := (.object "java/util/Set"), accessFlags := 128, slot := 3, constantValue := 0 }, { name := "size", type := .int, accessFlags := 128, slot := 4, constantValue := 0 }, { name := "modCount", type := .int, accessFlags := 128, slot := 5, constantValue := 0 }, { name := "threshold", type := .int, accessFlags := 0, slot := 6, constantValue := 0 }, { name := "loadFactor", type := .float, accessFlags := 16, slot := 7, constantValue := 0 }]
  methods := #[k7m0]
  instanceTypes := #[(.object "java/util/Set"), (.object "java/util/Collection"), (.array (.object "java/util/HashMap$Node")), (.object "java/util/Set"), .int, .int, .int, .float]
  staticTypes := #[.long, .int, .int, .float, .int, .int, .int]
  resolved := Array.replicate 629 none
  statics := none }

def pool8 : Array CpInfo := pool [(8, .class_ 10), (1, u "java/lang/Iterable"), (24, .class_ 36), (0, u "java/lang/Object")] 25

/-- java/lang/Iterable -/
def k8 : Class := { plain "java/lang/Iterable" (some 0) with
  accessFlags := 1537
  interfaces := #[]
  cf := some (fileOf pool8 8 #[] #[] 1537 35 #[] #[])
  fields := #[]
  methods := #[]
  instanceTypes := #[]
  staticTypes := #[]
  resolved := Array.replicate 62 none
  statics := none }

def pool9 : Array CpInfo := pool [(10, .class_ 12), (1, u "java/util/Collection"), (47, .class_ 61), (0, u "java/lang/Object"), (0, .class_ 63), (0, u "java/lang/Iterable")] 51

/-- java/util/Collection -/
def k9 : Class := { plain "java/util/Collection" (some 0) with
  accessFlags := 1537
  interfaces := #[8]
  cf := some (fileOf pool9 10 #[] #[] 1537 60 #[62] #[])
  fields := #[]
  methods := #[]
  instanceTypes := #[]
  staticTypes := #[]
  resolved := Array.replicate 115 none
  statics := none }

def pool10 : Array CpInfo := pool [(1, .methodref 2 3), (0, .class_ 4), (0, .nameAndType 5 6), (0, u "java/lang/Object"), (0, u "<init>"), (0, u "()V"), (1, .class_ 10), (1, u "java/util/AbstractCollection"), (66, .class_ 78), (0, u "java/util/Collection")] 81

def k10c0 : Code := { maxStack := 1, maxLocals := 1, code := jdk_22_method_1_code, exceptionTable := #[], attributes := #[] }
def k10m0 : Method := { name := "<init>", desc := "()V", sig := { parameters := [], returnType := none }, accessFlags := 4, code := some k10c0 }
/-- java/util/AbstractCollection -/
def k10 : Class := { plain "java/util/AbstractCollection" (some 0) with
  accessFlags := 1057
  interfaces := #[9]
  cf := some (fileOf pool10 8 #[] #[{ accessFlags := 4, nameIndex := 5, descriptorIndex := 6, attributes := #[] }] 1057 2 #[77] #[])
  fields := #[]
  methods := #[k10m0]
  instanceTypes := #[]
  staticTypes := #[]
  resolved := Array.replicate 160 none
  statics := none }

def pool11 : Array CpInfo := pool [(8, .class_ 10), (1, u "java/util/SequencedCollection"), (15, .class_ 27), (0, u "java/lang/Object"), (0, .class_ 29), (0, u "java/util/Collection")] 27

/-- java/util/SequencedCollection -/
def k11 : Class := { plain "java/util/SequencedCollection" (some 0) with
  accessFlags := 1537
  interfaces := #[9]
  cf := some (fileOf pool11 8 #[] #[] 1537 26 #[28] #[])
  fields := #[]
  methods := #[]
  instanceTypes := #[]
  staticTypes := #[]
  resolved := Array.replicate 57 none
  statics := none }

def pool12 : Array CpInfo := pool [(8, .class_ 10), (1, u "java/util/List"), (92, .class_ 104), (0, u "java/lang/Object"), (15, .class_ 121), (0, u "java/util/SequencedCollection")] 129

/-- java/util/List -/
def k12 : Class := { plain "java/util/List" (some 0) with
  accessFlags := 1537
  interfaces := #[11]
  cf := some (fileOf pool12 8 #[] #[] 1537 103 #[120] #[])
  fields := #[]
  methods := #[]
  instanceTypes := #[]
  staticTypes := #[]
  resolved := Array.replicate 251 none
  statics := none }

def pool13 : Array CpInfo := pool [(1, .methodref 2 3), (0, .class_ 4), (0, .nameAndType 5 6), (0, u "java/util/AbstractCollection"), (0, u "<init>"), (0, u "()V"), (0, .fieldref 8 9), (0, .class_ 10), (0, .nameAndType 11 12), (0, u "java/util/AbstractList"), (0, u "modCount"), (0, u "I"), (64, .class_ 78), (0, u "java/util/AbstractList$Itr"), (3, .class_ 83), (0, u "java/util/AbstractList$ListItr"), (9, .class_ 94), (0, u "java/util/AbstractList$RandomAccessSubList"), (3, .class_ 99), (0, u "java/util/AbstractList$SubList"), (33, .class_ 134), (0, u "java/util/List"), (73, .class_ 209), (0, u "java/util/AbstractList$SubList$1"), (0, .class_ 211), (0, u "java/util/AbstractList$RandomAccessSpliterator")] 6

def k13c0 : Code := { maxStack := 2, maxLocals := 1, code := jdk_39_method_1_code, exceptionTable := #[], attributes := #[] }
def k13m0 : Method := { name := "<init>", desc := "()V", sig := { parameters := [], returnType := none }, accessFlags := 4, code := some k13c0 }
/-- java/util/AbstractList -/
def k13 : Class := { plain "java/util/AbstractList" (some 10) with
  accessFlags := 1057
  interfaces := #[12]
  cf := some (fileOf pool13 8 #[.nestMembers #[93, 98, 208, 210, 82, 77]] #[{ accessFlags := 4, nameIndex := 5, descriptorIndex := 6, attributes := #[] }] 1057 2 #[133] #[{ accessFlags := 132, nameIndex := 11, descriptorIndex := 12, attributes := #[] }])
  fields := #[{ name := "modCount", type := .int, accessFlags := 132, slot := 0, constantValue := 0 }]
  methods := #[k13m0]
  instanceTypes := #[.int]
  staticTypes := #[]
  resolved := Array.replicate 218 none
  statics := none }

def pool14 : Array CpInfo := pool [(1, .class_ 2), (0, u "java/util/RandomAccess"), (0, .class_ 4), (0, u "java/lang/Object")] 2

/-- java/util/RandomAccess -/
def k14 : Class := { plain "java/util/RandomAccess" (some 0) with
  accessFlags := 1537
  interfaces := #[]
  cf := some (fileOf pool14 1 #[] #[] 1537 3 #[] #[])
  fields := #[]
  methods := #[]
  instanceTypes := #[]
  staticTypes := #[]
  resolved := Array.replicate 7 none
  statics := none }

def pool15 : Array CpInfo := pool [(1, .methodref 2 3), (0, .class_ 4), (0, .nameAndType 5 6), (0, u "java/util/AbstractList"), (0, u "<init>"), (0, u "()V"), (2, .fieldref 10 11), (0, .class_ 12), (0, .nameAndType 13 14), (0, u "java/util/ArrayList"), (0, u "elementData"), (0, u "[Ljava/lang/Object;"), (2, u "EMPTY_ELEMENTDATA"), (21, .fieldref 10 40), (0, .nameAndType 41 14), (0, u "DEFAULTCAPACITY_EMPTY_ELEMENTDATA"), (8, u "size"), (0, u "I"), (96, .class_ 149), (0, u "java/util/List"), (112, .class_ 263), (0, u "java/util/ArrayList$ListItr"), (3, .class_ 268), (0, u "java/util/ArrayList$Itr"), (7, .class_ 277), (0, u "java/util/ArrayList$SubList"), (12, .class_ 291), (0, u "java/util/ArrayList$ArrayListSpliterator"), (37, .class_ 330), (0, u "java/util/RandomAccess"), (0, .class_ 332), (0, u "java/lang/Cloneable"), (0, .class_ 334), (0, u "java/io/Serializable"), (0, u "serialVersionUID"), (0, u "J"), (3, u "DEFAULT_CAPACITY"), (159, .class_ 501), (0, u "java/util/ArrayList$SubList$2"), (0, .class_ 503), (0, u "java/util/ArrayList$SubList$1")] 5

def k15c0 : Code := { maxStack := 2, maxLocals := 1, code := jdk_38_method_2_code, exceptionTable := #[], attributes := #[] }
def k15m0 : Method := { name := "<init>", desc := "()V", sig := { parameters := [], returnType := none }, accessFlags := 1, code := some k15c0 }
/-- java/util/ArrayList -/
def k15 : Class := { plain "java/util/ArrayList" (some 13) with
  accessFlags := 33
  interfaces := #[12, 14, 5, 6]
  cf := some (fileOf pool15 10 #[.nestMembers #[290, 276, 500, 502, 262, 267]] #[{ accessFlags := 1, nameIndex := 5, descriptorIndex := 6, attributes := #[] }] 33 2 #[148, 329, 331, 333] #[{ accessFlags := 26, nameIndex := 335, descriptorIndex := 336, attributes := #[] }, { accessFlags := 26, nameIndex := 340, descriptorIndex := 51, attributes := #[] }, { accessFlags := 26, nameIndex := 17, descriptorIndex := 14, attributes := #[] }, { accessFlags := 26, nameIndex := 41, descriptorIndex := 14, attributes := #[] }, { accessFlags := 128, nameIndex := 13, descriptorIndex := 14, attributes := #[] }, { accessFlags := 2, nameIndex := 50, descriptorIndex := 51, attributes := #[] }])
  fields := #[{ name := "serialVersionUID", type := .long, accessFlags := 26, slot := 0, constantValue := 0 }, { name := "DEFAULT_CAPACITY", type := .int, accessFlags := 26, slot := 1, constantValue := 0 }, { name := "EMPTY_ELEMENTDATA", type := (.array (.object "java/lang/Object")), accessFlags := 26, slot := 2, constantValue := 0 }, { name := "DEFAULTCAPACITY_EMPTY_ELEMENTDATA", type := (.array (.object "java/lang/Object")), accessFlags := 26, slot := 3, constantValue := 0 }, { name := "elementData", type := (.array (.object "java/lang/Object")), accessFlags := 128, slot := 1, constantValue := 0 }, { name := "size", type := .int, accessFlags := 2, slot := 2, constantValue := 0 }]
  methods := #[k15m0]
  instanceTypes := #[.int, (.array (.object "java/lang/Object")), .int]
  staticTypes := #[.long, .int, (.array (.object "java/lang/Object")), (.array (.object "java/lang/Object"))]
  resolved := Array.replicate 509 none
  statics := some 0 }

def pool16 : Array CpInfo := pool [(1, .methodref 2 3), (0, .class_ 4), (0, .nameAndType 5 6), (0, u "java/lang/Object"), (0, u "<init>"), (0, u "()V"), (0, .class_ 8), (0, u "com/example/mendb/mendb/PlanStep"), (8, .class_ 18), (0, u "com/example/mendb/mendb/PlanStep$1"), (0, .class_ 20), (0, u "com/example/mendb/mendb/PlanStep$Head"), (0, .class_ 22), (0, u "com/example/mendb/mendb/PlanStep$CallStep"), (0, .class_ 24), (0, u "com/example/mendb/mendb/PlanStep$BindStep"), (0, .class_ 26), (0, u "com/example/mendb/mendb/PlanStep$TestStep"), (0, .class_ 28), (0, u "com/example/mendb/mendb/PlanStep$ComputingStep"), (0, .class_ 30), (0, u "com/example/mendb/mendb/PlanStep$OnDivisionByZero"), (0, .class_ 32), (0, u "com/example/mendb/mendb/PlanStep$AggregateStep"), (0, .class_ 34), (0, u "com/example/mendb/mendb/PlanStep$NegationStep"), (0, .class_ 36), (0, u "com/example/mendb/mendb/PlanStep$AtomStep"), (0, .class_ 38), (0, u "com/example/mendb/mendb/PlanStep$HeadBinding"), (0, .class_ 40), (0, u "com/example/mendb/mendb/PlanStep$Once"), (0, .class_ 42), (0, u "com/example/mendb/mendb/PlanStep$Bounded")] 13

def k16c0 : Code := { maxStack := 1, maxLocals := 1, code := prog_71_method_1_code, exceptionTable := #[], attributes := #[] }
def k16m0 : Method := { name := "<init>", desc := "()V", sig := { parameters := [], returnType := none }, accessFlags := 0, code := some k16c0 }
/-- com/example/mendb/mendb/PlanStep -/
def k16 : Class := { plain "com/example/mendb/mendb/PlanStep" (some 0) with
  accessFlags := 1056
  interfaces := #[]
  cf := some (fileOf pool16 7 #[.nestMembers #[17, 19, 21, 23, 25, 27, 29, 31, 33, 35, 37, 39, 41]] #[{ accessFlags := 0, nameIndex := 5, descriptorIndex := 6, attributes := #[] }] 1056 2 #[] #[])
  fields := #[]
  methods := #[k16m0]
  instanceTypes := #[]
  staticTypes := #[]
  resolved := Array.replicate 56 none
  statics := none }

def pool17 : Array CpInfo := pool [(1, .methodref 2 3), (0, .class_ 4), (0, .nameAndType 5 6), (0, u "com/example/mendb/mendb/PlanStep"), (0, u "<init>"), (0, u "()V"), (0, .class_ 8), (0, u "com/example/mendb/mendb/PlanStep$Once")] 9

def k17c0 : Code := { maxStack := 1, maxLocals := 1, code := prog_83_method_1_code, exceptionTable := #[], attributes := #[] }
def k17m0 : Method := { name := "<init>", desc := "()V", sig := { parameters := [], returnType := none }, accessFlags := 0, code := some k17c0 }
/-- com/example/mendb/mendb/PlanStep$Once -/
def k17 : Class := { plain "com/example/mendb/mendb/PlanStep$Once" (some 16) with
  accessFlags := 1056
  interfaces := #[]
  cf := some (fileOf pool17 7 #[.nestHost 2] #[{ accessFlags := 0, nameIndex := 5, descriptorIndex := 6, attributes := #[] }] 1056 2 #[] #[])
  fields := #[]
  methods := #[k17m0]
  instanceTypes := #[]
  staticTypes := #[]
  resolved := Array.replicate 18 none
  statics := none }

def pool18 : Array CpInfo := pool [(1, .methodref 2 3), (0, .class_ 4), (0, .nameAndType 5 6), (0, u "com/example/mendb/mendb/PlanStep$Once"), (0, u "<init>"), (0, u "()V"), (0, .fieldref 8 9), (0, .class_ 10), (0, .nameAndType 11 12), (0, u "com/example/mendb/mendb/PlanStep$HeadBinding"), (0, u "store"), (0, u "Lcom/example/mendb/mendb/TupleStore;"), (0, .fieldref 8 14), (0, .nameAndType 15 16), (0, u "columns"), (0, u "[I"), (0, .fieldref 8 18), (0, .nameAndType 19 16), (0, u "bindColumns"), (0, .fieldref 8 21), (0, .nameAndType 22 16), (0, u "bindSlots"), (0, .fieldref 8 24), (0, .nameAndType 25 16), (0, u "testColumns"), (0, .fieldref 8 27), (0, .nameAndType 28 16), (0, u "testSlots"), (0, .methodref 30 31), (0, .class_ 32), (0, .nameAndType 33 34), (0, u "com/example/mendb/mendb/TupleStore"), (0, u "arity"), (0, u "()I"), (0, .fieldref 8 36), (0, .nameAndType 37 16), (0, u "tuple"), (4, u "(Lcom/example/mendb/mendb/TupleStore;[I[I[I[I[I)V"), (2, u "bindTo"), (3, u "([I)V"), (0, u "first"), (0, u "([I)Z"), (3, .class_ 56), (0, u "com/example/mendb/mendb/PlanStep")] 3

def k18c0 : Code := { maxStack := 2, maxLocals := 7, code := prog_80_method_1_code, exceptionTable := #[], attributes := #[] }
def k18m0 : Method := { name := "<init>", desc := "(Lcom/example/mendb/mendb/TupleStore;[I[I[I[I[I)V", sig := { parameters := [(.object "com/example/mendb/mendb/TupleStore"), (.array .int), (.array .int), (.array .int), (.array .int), (.array .int)], returnType := none }, accessFlags := 0, code := some k18c0 }
def k18c1 : Code := { maxStack := 4, maxLocals := 6, code := prog_80_method_3_code, exceptionTable := #[], attributes := #[] }
def k18m1 : Method := { name := "bindTo", desc := "([I)V", sig := { parameters := [(.array .int)], returnType := none }, accessFlags := 0, code := some k18c1 }
def k18c2 : Code := { maxStack := 5, maxLocals := 3, code := prog_80_method_4_code, exceptionTable := #[], attributes := #[] }
def k18m2 : Method := { name := "first", desc := "([I)Z", sig := { parameters := [(.array .int)], returnType := some .boolean }, accessFlags := 0, code := some k18c2 }
/-- com/example/mendb/mendb/PlanStep$HeadBinding -/
def k18 : Class := { plain "com/example/mendb/mendb/PlanStep$HeadBinding" (some 17) with
  accessFlags := 32
  interfaces := #[]
  cf := some (fileOf pool18 8 #[.nestHost 55] #[{ accessFlags := 0, nameIndex := 5, descriptorIndex := 42, attributes := #[] }, { accessFlags := 0, nameIndex := 45, descriptorIndex := 49, attributes := #[] }, { accessFlags := 0, nameIndex := 50, descriptorIndex := 51, attributes := #[] }] 32 2 #[] #[{ accessFlags := 18, nameIndex := 11, descriptorIndex := 12, attributes := #[] }, { accessFlags := 18, nameIndex := 15, descriptorIndex := 16, attributes := #[] }, { accessFlags := 18, nameIndex := 19, descriptorIndex := 16, attributes := #[] }, { accessFlags := 18, nameIndex := 22, descriptorIndex := 16, attributes := #[] }, { accessFlags := 18, nameIndex := 25, descriptorIndex := 16, attributes := #[] }, { accessFlags := 18, nameIndex := 28, descriptorIndex := 16, attributes := #[] }, { accessFlags := 18, nameIndex := 37, descriptorIndex := 16, attributes := #[] }])
  fields := #[{ name := "store", type := (.object "com/example/mendb/mendb/TupleStore"), accessFlags := 18, slot := 0, constantValue := 0 }, { name := "columns", type := (.array .int), accessFlags := 18, slot := 1, constantValue := 0 }, { name := "bindColumns", type := (.array .int), accessFlags := 18, slot := 2, constantValue := 0 }, { name := "bindSlots", type := (.array .int), accessFlags := 18, slot := 3, constantValue := 0 }, { name := "testColumns", type := (.array .int), accessFlags := 18, slot := 4, constantValue := 0 }, { name := "testSlots", type := (.array .int), accessFlags := 18, slot := 5, constantValue := 0 }, { name := "tuple", type := (.array .int), accessFlags := 18, slot := 6, constantValue := 0 }]
  methods := #[k18m0, k18m1, k18m2]
  instanceTypes := #[(.object "com/example/mendb/mendb/TupleStore"), (.array .int), (.array .int), (.array .int), (.array .int), (.array .int), (.array .int)]
  staticTypes := #[]
  resolved := Array.replicate 60 none
  statics := none }

/-- the primitive byte -/
def k19 : Class := { plain "byte" none with kind := .primitive 'B', accessFlags := 0x411 }
/-- [B -/
def k20 : Class := { plain "[B" (some 0) with kind := .array 19 .byte, interfaces := #[5, 6], accessFlags := 1041 }

/-- the primitive int -/
def k21 : Class := { plain "int" none with kind := .primitive 'I', accessFlags := 0x411 }
/-- [I -/
def k22 : Class := { plain "[I" (some 0) with kind := .array 21 .int, interfaces := #[5, 6], accessFlags := 1041 }

/-- the primitive long -/
def k23 : Class := { plain "long" none with kind := .primitive 'J', accessFlags := 0x411 }
/-- [J -/
def k24 : Class := { plain "[J" (some 0) with kind := .array 23 .long, interfaces := #[5, 6], accessFlags := 1041 }

/-- [Ljava/lang/Object; -/
def k25 : Class := { plain "[Ljava/lang/Object;" (some 0) with kind := .array 0 (.object "java/lang/Object"), interfaces := #[5, 6], accessFlags := 1041 }

def heap : Heap := #[{ cls := 15, slots := #[.long 0, .int 0, .ref 1, .ref 2], vm := .statics 15 },
  { cls := 25, slots := #[], vm := .none },
  { cls := 25, slots := #[], vm := .none }]
def classes : Array Class := #[k0, k1, k2, k3, k4, k5, k6, k7, k8, k9, k10, k11, k12, k13, k14, k15, k16, k17, k18, k19, k20, k21, k22, k23, k24, k25]
def interned : List (Array UInt16 × Addr) := []
def slotsUsed : Nat := 4
def theMethod : MethodId := ⟨1, 3⟩
def args0 : Array Value := #[.int 5, .int 5, .int 5, .int 5, .int 5, .int 5]
def aboutOver (below : List Frame) : State where
  vm := { classes := classes, interned := interned.toArray }
  heap := heap
  slotsUsed := slotsUsed
  threads := #[{ frames := .invoking theMethod args0 :: below }]
def below0 : List Frame := [.native { method := ⟨0, 0⟩, args := #[] }]
def about1 : State := aboutOver below0
def p0 : Program := .bare "" "" ""
def e0 : Env := launch0.env 0 0 0
theorem w_frames : about1.frames = Frame.invoking theMethod args0 :: below0 := rfl
set_option maxRecDepth 65536 in
theorem w_args : argsFit about1.vm theMethod args0 = true := by decide +kernel
set_option maxRecDepth 65536 in
theorem w_heap : heapFits about1 = true := by decide +kernel
set_option maxRecDepth 65536 in
theorem w_runnable : about1.curStatus? = some .runnable := by decide +kernel
set_option maxRecDepth 65536 in
theorem w_alone : about1.alone = true := by decide +kernel
set_option maxRecDepth 65536 in
theorem w_named : about1.methodNamed? x = some theMethod := by decide +kernel
set_option maxRecDepth 65536 in
theorem w_hears : about1.hears theMethod below0 = true := by decide +kernel
set_option maxRecDepth 65536 in
theorem w_ripe : about1.ripe theMethod args0 below0 = true := by decide +kernel
theorem w_running : about1.status = .running := rfl
set_option maxRecDepth 65536 in
theorem w_room : about1.hasRoom e0.platform room_1 = true :=
  launch0.hasRoom_least _ room_1 (by decide +kernel) (by decide +kernel) (by decide +kernel) (by decide +kernel) (by decide +kernel) (by decide +kernel)
theorem allAtoms_all (ts : List Jvm.Cond) (a : Array Jvm.Value) (st : Jvm.State) : (allAtoms ts).before a st = ts.all (fun c => c.before a st) := by
  induction ts with
  | nil => rfl
  | cons c t ih =>
    show (Jvm.Cond.and c (allAtoms t)).before a st = _
    rw [Jvm.Cond.before_and, ih, List.all_cons]
def words1 : List Jvm.Cond := Jvm.Cond.code x code maxLocals ret :: tables_1
/-- a 'code' word, met by the world's own term for the bytes: nothing is compared byte by byte -/
theorem code_word {y : MethodName} {bytes : ByteArray} {mx : Nat} {rt : Option FieldType} {a : Array Value} {s : State} {m : MethodId} {meth : Method} {c : Code} (h1 : s.methodNamed? y = some m) (h2 : s.vm.method? m = some meth) (h3 : meth.code = some c) (h4 : c.code = bytes)
    (h5 : (c.maxLocals == mx && c.exceptionTable.isEmpty && decide (c.maxStack ≤ mostOperands) && decide (meth.sig.returnType = rt) && !meth.locks && decide (parseMethodDescriptor y.desc = some meth.sig)) = true) : (Jvm.Cond.code y bytes mx rt).before a s = true := by
  simp only [Bool.and_eq_true, beq_iff_eq, Bool.not_eq_true', decide_eq_true_eq] at h5
  obtain ⟨⟨⟨⟨⟨g1, g2⟩, g3⟩, g4⟩, g5⟩, g6⟩ := h5
  simp [Cond.before, Cond.holds, Cond.value, h1, h2, h3, h4, g1, g2, g3, g4, g5, g6]
def isCode : Jvm.Cond → Bool
  | .code _ _ _ _ => true
  | _ => false
theorem all_split {L : List Jvm.Cond} {P : Jvm.Cond → Bool} (h1 : L.all (fun c => isCode c || P c) = true) (h2 : ∀ c ∈ L.filter isCode, P c = true) : L.all P = true := by
  refine List.all_eq_true.mpr fun c hc => ?_
  have h := List.all_eq_true.mp h1 c hc
  rcases Bool.eq_false_or_eq_true (isCode c) with hi | hi
  · exact h2 c (List.mem_filter.mpr ⟨hc, hi⟩)
  · simpa [hi] using h
set_option maxRecDepth 65536 in
theorem w_c0 : (Jvm.Cond.code x code maxLocals ret).before args0 about1 = true := code_word (m := ⟨1, 3⟩) (meth := k1m3) (c := k1c3) (by decide +kernel) rfl rfl rfl (by decide +kernel)
set_option maxRecDepth 65536 in
theorem w_c1 : (Jvm.Cond.code ({ cls := "com/example/mendb/mendb/TupleStore", name := "<init>", desc := "(I)V" } : Jvm.MethodName) prog_127_method_1_code (2 : Nat) (Option.none : Option Jvm.ClassFile.FieldType)).before args0 about1 = true := code_word (m := ⟨2, 0⟩) (meth := k2m0) (c := k2c0) (by decide +kernel) rfl rfl rfl (by decide +kernel)
set_option maxRecDepth 65536 in
theorem w_c2 : (Jvm.Cond.code ({ cls := "java/lang/Object", name := "<init>", desc := "()V" } : Jvm.MethodName) object_method_1_code (1 : Nat) (Option.none : Option Jvm.ClassFile.FieldType)).before args0 about1 = true := code_word (m := ⟨0, 0⟩) (meth := k0m0) (c := k0c0) (by decide +kernel) rfl rfl rfl (by decide +kernel)
set_option maxRecDepth 65536 in
theorem w_c3 : (Jvm.Cond.code ({ cls := "java/util/HashMap", name := "<init>", desc := "()V" } : Jvm.MethodName) jdk_69_method_7_code (1 : Nat) (Option.none : Option Jvm.ClassFile.FieldType)).before args0 about1 = true := code_word (m := ⟨7, 0⟩) (meth := k7m0) (c := k7c0) (by decide +kernel) rfl rfl rfl (by decide +kernel)
set_option maxRecDepth 65536 in
theorem w_c4 : (Jvm.Cond.code ({ cls := "java/util/AbstractMap", name := "<init>", desc := "()V" } : Jvm.MethodName) jdk_71_method_1_code (1 : Nat) (Option.none : Option Jvm.ClassFile.FieldType)).before args0 about1 = true := code_word (m := ⟨4, 0⟩) (meth := k4m0) (c := k4c0) (by decide +kernel) rfl rfl rfl (by decide +kernel)
set_option maxRecDepth 65536 in
theorem w_c5 : (Jvm.Cond.code ({ cls := "java/util/ArrayList", name := "<init>", desc := "()V" } : Jvm.MethodName) jdk_38_method_2_code (1 : Nat) (Option.none : Option Jvm.ClassFile.FieldType)).before args0 about1 = true := code_word (m := ⟨15, 0⟩) (meth := k15m0) (c := k15c0) (by decide +kernel) rfl rfl rfl (by decide +kernel)
set_option maxRecDepth 65536 in
theorem w_c6 : (Jvm.Cond.code ({ cls := "java/util/AbstractList", name := "<init>", desc := "()V" } : Jvm.MethodName) jdk_39_method_1_code (1 : Nat) (Option.none : Option Jvm.ClassFile.FieldType)).before args0 about1 = true := code_word (m := ⟨13, 0⟩) (meth := k13m0) (c := k13c0) (by decide +kernel) rfl rfl rfl (by decide +kernel)
set_option maxRecDepth 65536 in
theorem w_c7 : (Jvm.Cond.code ({ cls := "java/util/AbstractCollection", name := "<init>", desc := "()V" } : Jvm.MethodName) jdk_22_method_1_code (1 : Nat) (Option.none : Option Jvm.ClassFile.FieldType)).before args0 about1 = true := code_word (m := ⟨10, 0⟩) (meth := k10m0) (c := k10c0) (by decide +kernel) rfl rfl rfl (by decide +kernel)
set_option maxRecDepth 65536 in
theorem w_c8 : (Jvm.Cond.code ({ cls := "com/example/mendb/mendb/HeadBindingFirstPinLaw", name := "arr", desc := "(III)[I" } : Jvm.MethodName) method_2_code (3 : Nat) (Option.some (Jvm.ClassFile.FieldType.array Jvm.ClassFile.FieldType.int))).before args0 about1 = true := code_word (m := ⟨1, 1⟩) (meth := k1m1) (c := k1c1) (by decide +kernel) rfl rfl rfl (by decide +kernel)
set_option maxRecDepth 65536 in
theorem w_c9 : (Jvm.Cond.code ({ cls := "com/example/mendb/mendb/PlanStep$HeadBinding", name := "<init>", desc := "(Lcom/example/mendb/mendb/TupleStore;[I[I[I[I[I)V" } : Jvm.MethodName) prog_80_method_1_code (7 : Nat) (Option.none : Option Jvm.ClassFile.FieldType)).before args0 about1 = true := code_word (m := ⟨18, 0⟩) (meth := k18m0) (c := k18c0) (by decide +kernel) rfl rfl rfl (by decide +kernel)
set_option maxRecDepth 65536 in
theorem w_c10 : (Jvm.Cond.code ({ cls := "com/example/mendb/mendb/PlanStep$Once", name := "<init>", desc := "()V" } : Jvm.MethodName) prog_83_method_1_code (1 : Nat) (Option.none : Option Jvm.ClassFile.FieldType)).before args0 about1 = true := code_word (m := ⟨17, 0⟩) (meth := k17m0) (c := k17c0) (by decide +kernel) rfl rfl rfl (by decide +kernel)
set_option maxRecDepth 65536 in
theorem w_c11 : (Jvm.Cond.code ({ cls := "com/example/mendb/mendb/PlanStep", name := "<init>", desc := "()V" } : Jvm.MethodName) prog_71_method_1_code (1 : Nat) (Option.none : Option Jvm.ClassFile.FieldType)).before args0 about1 = true := code_word (m := ⟨16, 0⟩) (meth := k16m0) (c := k16c0) (by decide +kernel) rfl rfl rfl (by decide +kernel)
set_option maxRecDepth 65536 in
theorem w_c12 : (Jvm.Cond.code ({ cls := "com/example/mendb/mendb/TupleStore", name := "arity", desc := "()I" } : Jvm.MethodName) prog_127_method_2_code (1 : Nat) (Option.some Jvm.ClassFile.FieldType.int)).before args0 about1 = true := code_word (m := ⟨2, 1⟩) (meth := k2m1) (c := k2c1) (by decide +kernel) rfl rfl rfl (by decide +kernel)
set_option maxRecDepth 65536 in
theorem w_c13 : (Jvm.Cond.code ({ cls := "com/example/mendb/mendb/PlanStep$HeadBinding", name := "bindTo", desc := "([I)V" } : Jvm.MethodName) prog_80_method_3_code (6 : Nat) (Option.none : Option Jvm.ClassFile.FieldType)).before args0 about1 = true := code_word (m := ⟨18, 1⟩) (meth := k18m1) (c := k18c1) (by decide +kernel) rfl rfl rfl (by decide +kernel)
set_option maxRecDepth 65536 in
theorem w_c14 : (Jvm.Cond.code ({ cls := "com/example/mendb/mendb/PlanStep$HeadBinding", name := "first", desc := "([I)Z" } : Jvm.MethodName) prog_80_method_4_code (3 : Nat) (Option.some Jvm.ClassFile.FieldType.boolean)).before args0 about1 = true := code_word (m := ⟨18, 2⟩) (meth := k18m2) (c := k18c2) (by decide +kernel) rfl rfl rfl (by decide +kernel)
set_option maxRecDepth 65536 in
theorem w_c15 : (Jvm.Cond.code ({ cls := "com/example/mendb/mendb/HeadBindingFirstPinLaw", name := "col", desc := "(IIII)I" } : Jvm.MethodName) method_3_code (4 : Nat) (Option.some Jvm.ClassFile.FieldType.int)).before args0 about1 = true := code_word (m := ⟨1, 2⟩) (meth := k1m2) (c := k1c2) (by decide +kernel) rfl rfl rfl (by decide +kernel)
def codes1 : List Jvm.Cond := [Jvm.Cond.code x code maxLocals ret, Jvm.Cond.code ({ cls := "com/example/mendb/mendb/TupleStore", name := "<init>", desc := "(I)V" } : Jvm.MethodName) prog_127_method_1_code (2 : Nat) (Option.none : Option Jvm.ClassFile.FieldType), Jvm.Cond.code ({ cls := "java/lang/Object", name := "<init>", desc := "()V" } : Jvm.MethodName) object_method_1_code (1 : Nat) (Option.none : Option Jvm.ClassFile.FieldType), Jvm.Cond.code ({ cls := "java/util/HashMap", name := "<init>", desc := "()V" } : Jvm.MethodName) jdk_69_method_7_code (1 : Nat) (Option.none : Option Jvm.ClassFile.FieldType), Jvm.Cond.code ({ cls := "java/util/AbstractMap", name := "<init>", desc := "()V" } : Jvm.MethodName) jdk_71_method_1_code (1 : Nat) (Option.none : Option Jvm.ClassFile.FieldType), Jvm.Cond.code ({ cls := "java/util/ArrayList", name := "<init>", desc := "()V" } : Jvm.MethodName) jdk_38_method_2_code (1 : Nat) (Option.none : Option Jvm.ClassFile.FieldType), Jvm.Cond.code ({ cls := "java/util/AbstractList", name := "<init>", desc := "()V" } : Jvm.MethodName) jdk_39_method_1_code (1 : Nat) (Option.none : Option Jvm.ClassFile.FieldType), Jvm.Cond.code ({ cls := "java/util/AbstractCollection", name := "<init>", desc := "()V" } : Jvm.MethodName) jdk_22_method_1_code (1 : Nat) (Option.none : Option Jvm.ClassFile.FieldType), Jvm.Cond.code ({ cls := "com/example/mendb/mendb/HeadBindingFirstPinLaw", name := "arr", desc := "(III)[I" } : Jvm.MethodName) method_2_code (3 : Nat) (Option.some (Jvm.ClassFile.FieldType.array Jvm.ClassFile.FieldType.int)), Jvm.Cond.code ({ cls := "com/example/mendb/mendb/PlanStep$HeadBinding", name := "<init>", desc := "(Lcom/example/mendb/mendb/TupleStore;[I[I[I[I[I)V" } : Jvm.MethodName) prog_80_method_1_code (7 : Nat) (Option.none : Option Jvm.ClassFile.FieldType), Jvm.Cond.code ({ cls := "com/example/mendb/mendb/PlanStep$Once", name := "<init>", desc := "()V" } : Jvm.MethodName) prog_83_method_1_code (1 : Nat) (Option.none : Option Jvm.ClassFile.FieldType), Jvm.Cond.code ({ cls := "com/example/mendb/mendb/PlanStep", name := "<init>", desc := "()V" } : Jvm.MethodName) prog_71_method_1_code (1 : Nat) (Option.none : Option Jvm.ClassFile.FieldType), Jvm.Cond.code ({ cls := "com/example/mendb/mendb/TupleStore", name := "arity", desc := "()I" } : Jvm.MethodName) prog_127_method_2_code (1 : Nat) (Option.some Jvm.ClassFile.FieldType.int), Jvm.Cond.code ({ cls := "com/example/mendb/mendb/PlanStep$HeadBinding", name := "bindTo", desc := "([I)V" } : Jvm.MethodName) prog_80_method_3_code (6 : Nat) (Option.none : Option Jvm.ClassFile.FieldType), Jvm.Cond.code ({ cls := "com/example/mendb/mendb/PlanStep$HeadBinding", name := "first", desc := "([I)Z" } : Jvm.MethodName) prog_80_method_4_code (3 : Nat) (Option.some Jvm.ClassFile.FieldType.boolean), Jvm.Cond.code ({ cls := "com/example/mendb/mendb/HeadBindingFirstPinLaw", name := "col", desc := "(IIII)I" } : Jvm.MethodName) method_3_code (4 : Nat) (Option.some Jvm.ClassFile.FieldType.int)]
set_option maxRecDepth 65536 in
theorem codes_eq : words1.filter isCode = codes1 := rfl
theorem w_codes : ∀ c ∈ words1.filter isCode, c.before args0 about1 = true := by
  rw [codes_eq]
  intro c hc
  simp only [codes1, List.mem_cons, List.not_mem_nil, or_false] at hc
  rcases hc with rfl | rfl | rfl | rfl | rfl | rfl | rfl | rfl | rfl | rfl | rfl | rfl | rfl | rfl | rfl | rfl
  · exact w_c0
  · exact w_c1
  · exact w_c2
  · exact w_c3
  · exact w_c4
  · exact w_c5
  · exact w_c6
  · exact w_c7
  · exact w_c8
  · exact w_c9
  · exact w_c10
  · exact w_c11
  · exact w_c12
  · exact w_c13
  · exact w_c14
  · exact w_c15
set_option maxRecDepth 65536 in
theorem w_t1 : (words1.take 24).all (fun c => isCode c || c.before args0 about1) = true := by decide +kernel
set_option maxRecDepth 65536 in
theorem w_t2 : ((words1.drop 24).take 24).all (fun c => isCode c || c.before args0 about1) = true := by decide +kernel
set_option maxRecDepth 65536 in
theorem w_t3 : (((words1.drop 24).drop 24).take 24).all (fun c => isCode c || c.before args0 about1) = true := by decide +kernel
set_option maxRecDepth 65536 in
theorem w_t4 : ((((words1.drop 24).drop 24).drop 24).take 24).all (fun c => isCode c || c.before args0 about1) = true := by decide +kernel
set_option maxRecDepth 65536 in
theorem w_t5 : (((((words1.drop 24).drop 24).drop 24).drop 24).take 24).all (fun c => isCode c || c.before args0 about1) = true := by decide +kernel
set_option maxRecDepth 65536 in
theorem w_t6 : (((((words1.drop 24).drop 24).drop 24).drop 24).drop 24).all (fun c => isCode c || c.before args0 about1) = true := by decide +kernel
theorem w_tables : (allAtoms (Jvm.Cond.code x code maxLocals ret :: tables_1)).before args0 about1 = true := by
  rw [allAtoms_all]
  show words1.all (fun c => c.before args0 about1) = true
  refine all_split ?_ w_codes
  rw [← List.take_append_drop 24 words1, List.all_append, w_t1, ← List.take_append_drop 24 (words1.drop 24), List.all_append, w_t2, ← List.take_append_drop 24 ((words1.drop 24).drop 24), List.all_append, w_t3, ← List.take_append_drop 24 (((words1.drop 24).drop 24).drop 24), List.all_append, w_t4, ← List.take_append_drop 24 ((((words1.drop 24).drop 24).drop 24).drop 24), List.all_append, w_t5, w_t6]
  rfl
set_option maxRecDepth 65536 in
theorem w_rest : rest_1_c.before args0 about1 = true := by decide +kernel
set_option maxRecDepth 65536 in
theorem w_case : (Jvm.Cond.and given_1 narrow_1).before args0 about1 = true := by decide +kernel
theorem w_applies : (headSpec (Jvm.Cond.code x code maxLocals ret :: tables_1) room_1).applies x e0.platform about1 = true :=
  (Spec.applies_iff w_frames).mpr ⟨w_running, w_runnable, w_alone, w_named, w_hears, w_ripe, w_room, w_tables⟩
theorem atStart : AtStart classFile x code maxLocals ret World_1 tables_1 room_1 Calls_1 rest_1 Pre_1 launch0 p0 e0 about1 theMethod args0 below0 :=
  ⟨lists_1, trivial, launch0.admits_env _ _ _, launch0.least_env, fairChoices_fair.cas, fairChoices_fair.clock, w_frames, w_args, w_heap, w_applies, trivial, w_rest, w_case⟩
end start1
theorem witness_1 : WitnessClaimed_1 := ⟨start1.p0, start1.e0, start1.about1, start1.theMethod, start1.args0, start1.below0, start1.atStart⟩
end Jvm.Pilot.@@N@@
