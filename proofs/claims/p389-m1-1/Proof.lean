import JvmDerived
import JvmDerived.Pilot.@@N@@Statement
import JvmDerived.Pilot.@@N@@Code
set_option linter.unusedVariables false
set_option linter.unusedSimpArgs false
namespace Jvm.Pilot.@@N@@
open Jvm Jvm.ClassFile Sem Op Lib Jvm.Free Jvm.Stand Jvm.LawKit Jvm.RoadKit Bundle Jvm.Pilot.@@N@@.Jvm.D
/-! OWN FRAMEWORK, part 1: a weakest-precondition form of the walk (W), its single steps, returns, calls -/
/-- what is known of the heap: addresses with what their cells are -/
abbrev Asn := List (Addr × (Cell → Prop))
def Sep (Z : State) (n0 : Nat) (h : Heap) (σ : Asn) : Prop := Old Z n0 h ∧ (∀ x ∈ σ, n0 ≤ x.1 ∧ ∃ c : Cell, h[x.1]? = some c ∧ x.2 c) ∧ (σ.map (fun x => x.1)).Nodup
/-- a body: its class, name, bytes, max_locals, return kind -/
abbrev Bdy := String × String × ByteArray × Nat × Option FieldType
def Cx (p : Program) (s : State) (m : MethodId) (meth : Method) (c : Code) (Z : State) (B : Bdy) : Prop :=
  p.tables.exec = Jvm.exec ∧ c.code = B.2.2.1 ∧ c.maxLocals = B.2.2.2.1 ∧ s.vm.findClass B.1 = some m.cls ∧ meth.name = B.2.1 ∧ Z.Warmed39 s.vm ∧ meth.sig.returnType = B.2.2.2.2 ∧ meth.locks = false
/-- from this point (known heap, pc, locals, stack) the body returns, and what it returns meets Q -/
def W (l : Launch) (Z : State) (n0 : Nat) (B : Bdy) (R : Room) (Q : Option Value → Asn → Prop) (cells slots : Nat) (σ : Asn) (pc : Nat) (ls : Array Slot) (st : List Value) : Prop :=
  ∀ (p : Program) (e : Env) (s : State) (m : MethodId) (args : Array Value) (below : List Frame) (meth : Method) (c : Code) (T : State) (locs : List Loc),
    Cx p s m meth c Z B → Stand p l e R s m args below meth c T locs cells slots → Fr n0 locs → Sep Z n0 T.heap σ →
    ∃ (u : State) (o : Outcome), Steps p.tables e below (T.setTop (mkF m pc ls st)) u ∧ u.status = .running ∧ Ended u below o ∧
      ∃ (v : Option Value) (L : List Loc), o = .returned v ∧ ((∃ σ', Q v σ' ∧ Sep Z n0 u.heap σ') ∧ Fr n0 L) ∧ FrameEnd s o u L R.cells R.slots
/-- a contract: called with these arguments on a heap that meets σ, the method returns, and Q holds -/
def Sp (l : Launch) (Z : State) (n0 : Nat) (y : MethodName) (bytes : ByteArray) (maxL : Nat) (ret : Option FieldType) (rm : Room) (as : List Value) (σ : Asn) (Q : Option Value → Asn → Prop) : Prop :=
  ∀ (ws : List Jvm.Cond) (h0 : Heap), Sep Z n0 h0 σ → MetFree l y (head1 (Jvm.Cond.code y bytes maxL ret :: ws) rm) (fun a U => a = as.toArray ∧ Z.Warmed39 U.vm ∧ U.heap = h0) (fun _ _ _ _ _ => True)
    (fun _ U o U' => ∃ v L, o = .returned v ∧ ((∃ σ', Q v σ' ∧ Sep Z n0 U'.heap σ') ∧ Fr n0 L) ∧ FrameEnd U o U' L rm.cells rm.slots)
section Rules
variable {l : Launch} {Z : State} {n0 : Nat} {B : Bdy} {R : Room} {Q : Option Value → Asn → Prop} {cells slots : Nat} {σ : Asn} {pc pc' : Nat} {ls ls' : Array Slot} {st st' rest : List Value} {a0 : Array Value}
theorem Sp.of {y : MethodName} {bytes : ByteArray} {maxL : Nat} {ret : Option FieldType} {as : List Value} (hpn : plainFor y = true) (hent : ∀ m, entryFrame m as.toArray maxL = mkF m 0 ls [])
    (k : W l Z n0 (y.cls, y.name, bytes, maxL, ret) R Q 0 0 σ 0 ls []) : Sp l Z n0 y bytes maxL ret R as σ Q := by
  intro ws h0 hS
  refine MetFree.of_bodySF hpn hisR ?_
  intro p e s m args below meth c s₁ Bd hml0 hP hK
  obtain ⟨rfl, hZ, hh⟩ := hP
  have e0 : s₁.heap = h0 := by rw [← hh, Bd.state]; rfl
  obtain ⟨u, o, h1, h2, h3, h4⟩ := k p e s m _ below meth c s₁ [] ⟨Bd.exec, Bd.bytes, hml0, findClass_of_methodNamed Bd.named, (name_of_methodNamed Bd.named Bd.method).1, hZ, Bd.returns, Bd.notSynchronized⟩ (Stand.of_body Bd) (Fr.nil n0) (by rw [e0]; exact hS)
  exact ⟨u, o, castTop (hent m) h1, h2, h3, h4⟩
theorem W.of (hstep : ∀ (p : Program) (e : Env) (s : State) (m : MethodId) (args : Array Value) (below : List Frame) (meth : Method) (c : Code) (T : State) (locs : List Loc), Cx p s m meth c Z B → Stand p l e R s m args below meth c T locs cells slots → ∀ t, Steps p.tables e below (T.setTop (mkF m pc' ls' st')) t → Steps p.tables e below (T.setTop (mkF m pc ls st)) t)
    (k : W l Z n0 B R Q cells slots σ pc' ls' st') : W l Z n0 B R Q cells slots σ pc ls st := by
  intro p e s m args below meth c T locs C X N S
  obtain ⟨u, o, h1, h2⟩ := k p e s m args below meth c T locs C X N S
  exact ⟨u, o, hstep p e s m args below meth c T locs C X u h1, h2⟩
theorem W.mono {Q' : Option Value → Asn → Prop} (hQ : ∀ v σ', Q v σ' → Q' v σ') (k : W l Z n0 B R Q cells slots σ pc ls st) : W l Z n0 B R Q' cells slots σ pc ls st := by
  intro p e s m args below meth c T locs C X N S
  obtain ⟨u, o, h1, h2, h3, v, L, h4, ⟨⟨σ', h5, h6⟩, h7⟩, h8⟩ := k p e s m args below meth c T locs C X N S
  exact ⟨u, o, h1, h2, h3, v, L, h4, ⟨⟨σ', hQ _ _ h5, h6⟩, h7⟩, h8⟩
theorem Sp.mono {y : MethodName} {bytes : ByteArray} {maxL : Nat} {ret : Option FieldType} {as : List Value} {Q' : Option Value → Asn → Prop} (hQ : ∀ v σ', Q v σ' → Q' v σ') (k : Sp l Z n0 y bytes maxL ret R as σ Q) : Sp l Z n0 y bytes maxL ret R as σ Q' := by
  intro ws h0 hS p e ha hc hk s m args below hf happ hP hK
  obtain ⟨n, o, h1, h2, h3, v, L, h4, ⟨⟨σ', h5, h6⟩, h7⟩, h8⟩ := k ws h0 hS p e ha hc hk s m args below hf happ hP hK
  exact ⟨n, o, h1, h2, h3, v, L, h4, ⟨⟨σ', hQ _ _ h5, h6⟩, h7⟩, h8⟩
/-! constants, loads, stores -/
theorem W.iconst (v : Int32) {i : Int} (hd : decode B.2.2.1 pc = .ok (.iconst i, 1)) (hp : pc + 1 = pc') (hv : Int32.ofInt i = v) (k : W l Z n0 B R Q cells slots σ pc' ls (.int v :: st)) : W l Z n0 B R Q cells slots σ pc ls st := by
  subst hp hv; exact W.of (fun p e s m args below meth c T locs C X t h => XS.iconst X.here C.1 rfl (hb C.2.1 hd) h) k
theorem W.bipush (v : Int32) {i : Int} (hd : decode B.2.2.1 pc = .ok (.bipush i, 2)) (hp : pc + 2 = pc') (hv : (Int8.ofInt i).toInt32 = v) (k : W l Z n0 B R Q cells slots σ pc' ls (.int v :: st)) : W l Z n0 B R Q cells slots σ pc ls st := by
  subst hp hv; exact W.of (fun p e s m args below meth c T locs C X t h => XS.bipush X.here C.1 rfl (hb C.2.1 hd) h) k
theorem W.sipush (v : Int32) {i : Int} (hd : decode B.2.2.1 pc = .ok (.sipush i, 3)) (hp : pc + 3 = pc') (hv : (Int16.ofInt i).toInt32 = v) (k : W l Z n0 B R Q cells slots σ pc' ls (.int v :: st)) : W l Z n0 B R Q cells slots σ pc ls st := by
  subst hp hv; exact W.of (fun p e s m args below meth c T locs C X t h => XS.sipush X.here C.1 rfl (hb C.2.1 hd) h) k
theorem W.lconst (v : Int64) {i : Fin 2} (hd : decode B.2.2.1 pc = .ok (.lconst i, 1)) (hp : pc + 1 = pc') (hv : Int64.ofNat i = v) (k : W l Z n0 B R Q cells slots σ pc' ls (.long v :: st)) : W l Z n0 B R Q cells slots σ pc ls st := by
  subst hp hv; exact W.of (fun p e s m args below meth c T locs C X t h => XT.lconst X.here C.1 rfl (hb C.2.1 hd) h) k
theorem W.aconstNull (hd : decode B.2.2.1 pc = .ok (.aconst_null, 1)) (hp : pc + 1 = pc') (k : W l Z n0 B R Q cells slots σ pc' ls (.null :: st)) : W l Z n0 B R Q cells slots σ pc ls st := by
  subst hp; exact W.of (fun p e s m args below meth c T locs C X t h => XS.aconstNull X.here C.1 rfl (hb C.2.1 hd) h) k
theorem W.ldcI {i : Nat} {v : Int32} (hd : decode B.2.2.1 pc = .ok (.ldc i, 2)) (w : (Jvm.Cond.constant B.1 i v).before a0 Z = true) (hp : pc + 2 = pc') (k : W l Z n0 B R Q cells slots σ pc' ls (.int v :: st)) : W l Z n0 B R Q cells slots σ pc ls st := by
  subst hp; exact W.of (fun p e s m args below meth c T locs C X t h => X.ldcI C.1 C.2.2.2.1 (mvT C.2.2.2.2.2.1 w) rfl (hb C.2.1 hd) h) k
theorem W.ldc2J {i : Nat} {v : Int64} (hd : decode B.2.2.1 pc = .ok (.ldc2_w i, 3)) (w : (Jvm.Cond.constantLong B.1 i v).before a0 Z = true) (hp : pc + 3 = pc') (k : W l Z n0 B R Q cells slots σ pc' ls (.long v :: st)) : W l Z n0 B R Q cells slots σ pc ls st := by
  subst hp; exact W.of (fun p e s m args below meth c T locs C X t h => X.ldc2J C.1 C.2.2.2.1 (mvT C.2.2.2.2.2.1 w) rfl (hb C.2.1 hd) h) k
theorem W.iloadN {i : Fin 4} {v : Int32} (hd : decode B.2.2.1 pc = .ok (.iload_n i, 1)) (hp : pc + 1 = pc') (hl : ls[i.val]? = some (.val (.int v))) (k : W l Z n0 B R Q cells slots σ pc' ls (.int v :: st)) : W l Z n0 B R Q cells slots σ pc ls st := by
  subst hp; exact W.of (fun p e s m args below meth c T locs C X t h => XS.iloadN X.here C.1 rfl (hb C.2.1 hd) hl h) k
theorem W.iload {i : Nat} {v : Int32} (hd : decode B.2.2.1 pc = .ok (.iload i, 2)) (hp : pc + 2 = pc') (hl : ls[i]? = some (.val (.int v))) (k : W l Z n0 B R Q cells slots σ pc' ls (.int v :: st)) : W l Z n0 B R Q cells slots σ pc ls st := by
  subst hp; exact W.of (fun p e s m args below meth c T locs C X t h => XS.iload X.here C.1 rfl (hb C.2.1 hd) hl h) k
theorem W.lloadN {i : Fin 4} {v : Int64} (hd : decode B.2.2.1 pc = .ok (.lload_n i, 1)) (hp : pc + 1 = pc') (hl : ls[i.val]? = some (.val (.long v))) (k : W l Z n0 B R Q cells slots σ pc' ls (.long v :: st)) : W l Z n0 B R Q cells slots σ pc ls st := by
  subst hp; exact W.of (fun p e s m args below meth c T locs C X t h => XT.lloadN X.here C.1 rfl (hb C.2.1 hd) hl h) k
theorem W.lload {i : Nat} {v : Int64} (hd : decode B.2.2.1 pc = .ok (.lload i, 2)) (hp : pc + 2 = pc') (hl : ls[i]? = some (.val (.long v))) (k : W l Z n0 B R Q cells slots σ pc' ls (.long v :: st)) : W l Z n0 B R Q cells slots σ pc ls st := by
  subst hp; exact W.of (fun p e s m args below meth c T locs C X t h => XT.lload X.here C.1 rfl (hb C.2.1 hd) hl h) k
theorem W.aloadN {i : Fin 4} {v : Value} (hd : decode B.2.2.1 pc = .ok (.aload_n i, 1)) (hp : pc + 1 = pc') (hl : ls[i.val]? = some (.val v)) (hv : v.isRef = true) (k : W l Z n0 B R Q cells slots σ pc' ls (v :: st)) : W l Z n0 B R Q cells slots σ pc ls st := by
  subst hp; exact W.of (fun p e s m args below meth c T locs C X t h => XS.aloadN X.here C.1 rfl (hb C.2.1 hd) hl hv h) k
theorem W.aload {i : Nat} {v : Value} (hd : decode B.2.2.1 pc = .ok (.aload i, 2)) (hp : pc + 2 = pc') (hl : ls[i]? = some (.val v)) (hv : v.isRef = true) (k : W l Z n0 B R Q cells slots σ pc' ls (v :: st)) : W l Z n0 B R Q cells slots σ pc ls st := by
  subst hp; exact W.of (fun p e s m args below meth c T locs C X t h => XS.aload X.here C.1 rfl (hb C.2.1 hd) hl hv h) k
theorem W.istoreN (ls' : Array Slot) {i : Fin 4} {v : Int32} (hd : decode B.2.2.1 pc = .ok (.istore_n i, 1)) (hp : pc + 1 = pc') (hl : storeLocals ls i.val (.int v) = some ls') (k : W l Z n0 B R Q cells slots σ pc' ls' st) : W l Z n0 B R Q cells slots σ pc ls (.int v :: st) := by
  subst hp; exact W.of (fun p e s m args below meth c T locs C X t h => XS.istoreN X.here C.1 rfl (hb C.2.1 hd) rfl hl h) k
theorem W.istore (ls' : Array Slot) {i : Nat} {v : Int32} (hd : decode B.2.2.1 pc = .ok (.istore i, 2)) (hp : pc + 2 = pc') (hl : storeLocals ls i (.int v) = some ls') (k : W l Z n0 B R Q cells slots σ pc' ls' st) : W l Z n0 B R Q cells slots σ pc ls (.int v :: st) := by
  subst hp; exact W.of (fun p e s m args below meth c T locs C X t h => XS.istore X.here C.1 rfl (hb C.2.1 hd) rfl hl h) k
theorem W.lstoreN (ls' : Array Slot) {i : Fin 4} {v : Int64} (hd : decode B.2.2.1 pc = .ok (.lstore_n i, 1)) (hp : pc + 1 = pc') (hl : storeLocals ls i.val (.long v) = some ls') (k : W l Z n0 B R Q cells slots σ pc' ls' st) : W l Z n0 B R Q cells slots σ pc ls (.long v :: st) := by
  subst hp; exact W.of (fun p e s m args below meth c T locs C X t h => XT.lstoreN X.here C.1 rfl (hb C.2.1 hd) rfl hl h) k
theorem W.lstore (ls' : Array Slot) {i : Nat} {v : Int64} (hd : decode B.2.2.1 pc = .ok (.lstore i, 2)) (hp : pc + 2 = pc') (hl : storeLocals ls i (.long v) = some ls') (k : W l Z n0 B R Q cells slots σ pc' ls' st) : W l Z n0 B R Q cells slots σ pc ls (.long v :: st) := by
  subst hp; exact W.of (fun p e s m args below meth c T locs C X t h => XT.lstore X.here C.1 rfl (hb C.2.1 hd) rfl hl h) k
theorem W.astoreN (ls' : Array Slot) {i : Fin 4} {v : Value} (hd : decode B.2.2.1 pc = .ok (.astore_n i, 1)) (hp : pc + 1 = pc') (hv : v.isRef = true) (hl : storeLocals ls i.val v = some ls') (k : W l Z n0 B R Q cells slots σ pc' ls' st) : W l Z n0 B R Q cells slots σ pc ls (v :: st) := by
  subst hp; exact W.of (fun p e s m args below meth c T locs C X t h => XS.astoreN X.here C.1 rfl (hb C.2.1 hd) rfl hv hl h) k
theorem W.astore (ls' : Array Slot) {i : Nat} {v : Value} (hd : decode B.2.2.1 pc = .ok (.astore i, 2)) (hp : pc + 2 = pc') (hv : v.isRef = true) (hl : storeLocals ls i v = some ls') (k : W l Z n0 B R Q cells slots σ pc' ls' st) : W l Z n0 B R Q cells slots σ pc ls (v :: st) := by
  subst hp; exact W.of (fun p e s m args below meth c T locs C X t h => XS.astore X.here C.1 rfl (hb C.2.1 hd) rfl hv hl h) k
theorem W.iinc (ls' : Array Slot) {i : Nat} {cst : Int} {x : Int32} (v y : Int32) (hd : decode B.2.2.1 pc = .ok (.iinc i cst, 3)) (hp : pc + 3 = pc') (hv : Int32.ofInt cst = v) (hx : ls[i]? = some (.val (.int x))) (hy : x + v = y) (hl : storeLocals ls i (.int y) = some ls') (k : W l Z n0 B R Q cells slots σ pc' ls' st) : W l Z n0 B R Q cells slots σ pc ls st := by
  subst hp hv hy; exact W.of (fun p e s m args below meth c T locs C X t h => XS.iinc X.here C.1 rfl (hb C.2.1 hd) hx hl h) k
theorem W.topJ {x : Int64} (y : Int64) (h : x = y) (k : W l Z n0 B R Q cells slots σ pc ls (.long y :: st)) : W l Z n0 B R Q cells slots σ pc ls (.long x :: st) := h ▸ k
theorem W.topI {x : Int32} (y : Int32) (h : x = y) (k : W l Z n0 B R Q cells slots σ pc ls (.int y :: st)) : W l Z n0 B R Q cells slots σ pc ls (.int x :: st) := h ▸ k
/-! arithmetic -/
theorem W.iadd {x : Int32} {y : Int32} (hd : decode B.2.2.1 pc = .ok (.iadd, 1)) (hp : pc + 1 = pc') (k : W l Z n0 B R Q cells slots σ pc' ls (.int (x + y) :: st)) : W l Z n0 B R Q cells slots σ pc ls (.int y :: .int x :: st) := by
  subst hp; exact W.of (fun p e s m args below meth c T locs C X t h => XS.iadd X.here C.1 rfl (hb C.2.1 hd) rfl h) k
theorem W.isub {x : Int32} {y : Int32} (hd : decode B.2.2.1 pc = .ok (.isub, 1)) (hp : pc + 1 = pc') (k : W l Z n0 B R Q cells slots σ pc' ls (.int (x - y) :: st)) : W l Z n0 B R Q cells slots σ pc ls (.int y :: .int x :: st) := by
  subst hp; exact W.of (fun p e s m args below meth c T locs C X t h => XS.isub X.here C.1 rfl (hb C.2.1 hd) rfl h) k
theorem W.imul {x : Int32} {y : Int32} (hd : decode B.2.2.1 pc = .ok (.imul, 1)) (hp : pc + 1 = pc') (k : W l Z n0 B R Q cells slots σ pc' ls (.int (x * y) :: st)) : W l Z n0 B R Q cells slots σ pc ls (.int y :: .int x :: st) := by
  subst hp; exact W.of (fun p e s m args below meth c T locs C X t h => XS.imul X.here C.1 rfl (hb C.2.1 hd) rfl h) k
theorem W.iand {x : Int32} {y : Int32} (hd : decode B.2.2.1 pc = .ok (.iand, 1)) (hp : pc + 1 = pc') (k : W l Z n0 B R Q cells slots σ pc' ls (.int (x &&& y) :: st)) : W l Z n0 B R Q cells slots σ pc ls (.int y :: .int x :: st) := by
  subst hp; exact W.of (fun p e s m args below meth c T locs C X t h => XS.iand X.here C.1 rfl (hb C.2.1 hd) rfl h) k
theorem W.ior {x : Int32} {y : Int32} (hd : decode B.2.2.1 pc = .ok (.ior, 1)) (hp : pc + 1 = pc') (k : W l Z n0 B R Q cells slots σ pc' ls (.int (x ||| y) :: st)) : W l Z n0 B R Q cells slots σ pc ls (.int y :: .int x :: st) := by
  subst hp; exact W.of (fun p e s m args below meth c T locs C X t h => XT.ior X.here C.1 rfl (hb C.2.1 hd) rfl h) k
theorem W.ixor {x : Int32} {y : Int32} (hd : decode B.2.2.1 pc = .ok (.ixor, 1)) (hp : pc + 1 = pc') (k : W l Z n0 B R Q cells slots σ pc' ls (.int (x ^^^ y) :: st)) : W l Z n0 B R Q cells slots σ pc ls (.int y :: .int x :: st) := by
  subst hp; exact W.of (fun p e s m args below meth c T locs C X t h => XT.ixor X.here C.1 rfl (hb C.2.1 hd) rfl h) k
theorem W.ishl {x : Int32} {y : Int32} (hd : decode B.2.2.1 pc = .ok (.ishl, 1)) (hp : pc + 1 = pc') (k : W l Z n0 B R Q cells slots σ pc' ls (.int (x <<< (y &&& 31)) :: st)) : W l Z n0 B R Q cells slots σ pc ls (.int y :: .int x :: st) := by
  subst hp; exact W.of (fun p e s m args below meth c T locs C X t h => XT.ishl X.here C.1 rfl (hb C.2.1 hd) rfl h) k
theorem W.ishr {x : Int32} {y : Int32} (hd : decode B.2.2.1 pc = .ok (.ishr, 1)) (hp : pc + 1 = pc') (k : W l Z n0 B R Q cells slots σ pc' ls (.int (x >>> (y &&& 31)) :: st)) : W l Z n0 B R Q cells slots σ pc ls (.int y :: .int x :: st) := by
  subst hp; exact W.of (fun p e s m args below meth c T locs C X t h => XT.ishr X.here C.1 rfl (hb C.2.1 hd) rfl h) k
theorem W.iushr {x : Int32} {y : Int32} (hd : decode B.2.2.1 pc = .ok (.iushr, 1)) (hp : pc + 1 = pc') (k : W l Z n0 B R Q cells slots σ pc' ls (.int (XT.ushr x y) :: st)) : W l Z n0 B R Q cells slots σ pc ls (.int y :: .int x :: st) := by
  subst hp; exact W.of (fun p e s m args below meth c T locs C X t h => XT.iushr X.here C.1 rfl (hb C.2.1 hd) rfl h) k
theorem W.ladd {x : Int64} {y : Int64} (hd : decode B.2.2.1 pc = .ok (.ladd, 1)) (hp : pc + 1 = pc') (k : W l Z n0 B R Q cells slots σ pc' ls (.long (x + y) :: st)) : W l Z n0 B R Q cells slots σ pc ls (.long y :: .long x :: st) := by
  subst hp; exact W.of (fun p e s m args below meth c T locs C X t h => XT.ladd X.here C.1 rfl (hb C.2.1 hd) rfl h) k
theorem W.lsub {x : Int64} {y : Int64} (hd : decode B.2.2.1 pc = .ok (.lsub, 1)) (hp : pc + 1 = pc') (k : W l Z n0 B R Q cells slots σ pc' ls (.long (x - y) :: st)) : W l Z n0 B R Q cells slots σ pc ls (.long y :: .long x :: st) := by
  subst hp; exact W.of (fun p e s m args below meth c T locs C X t h => XT.lsub X.here C.1 rfl (hb C.2.1 hd) rfl h) k
theorem W.lmul {x : Int64} {y : Int64} (hd : decode B.2.2.1 pc = .ok (.lmul, 1)) (hp : pc + 1 = pc') (k : W l Z n0 B R Q cells slots σ pc' ls (.long (x * y) :: st)) : W l Z n0 B R Q cells slots σ pc ls (.long y :: .long x :: st) := by
  subst hp; exact W.of (fun p e s m args below meth c T locs C X t h => XT.lmul X.here C.1 rfl (hb C.2.1 hd) rfl h) k
theorem W.land {x : Int64} {y : Int64} (hd : decode B.2.2.1 pc = .ok (.land, 1)) (hp : pc + 1 = pc') (k : W l Z n0 B R Q cells slots σ pc' ls (.long (x &&& y) :: st)) : W l Z n0 B R Q cells slots σ pc ls (.long y :: .long x :: st) := by
  subst hp; exact W.of (fun p e s m args below meth c T locs C X t h => XT.land X.here C.1 rfl (hb C.2.1 hd) rfl h) k
theorem W.lor {x : Int64} {y : Int64} (hd : decode B.2.2.1 pc = .ok (.lor, 1)) (hp : pc + 1 = pc') (k : W l Z n0 B R Q cells slots σ pc' ls (.long (x ||| y) :: st)) : W l Z n0 B R Q cells slots σ pc ls (.long y :: .long x :: st) := by
  subst hp; exact W.of (fun p e s m args below meth c T locs C X t h => XT.lor X.here C.1 rfl (hb C.2.1 hd) rfl h) k
theorem W.lxor {x : Int64} {y : Int64} (hd : decode B.2.2.1 pc = .ok (.lxor, 1)) (hp : pc + 1 = pc') (k : W l Z n0 B R Q cells slots σ pc' ls (.long (x ^^^ y) :: st)) : W l Z n0 B R Q cells slots σ pc ls (.long y :: .long x :: st) := by
  subst hp; exact W.of (fun p e s m args below meth c T locs C X t h => XT.lxor X.here C.1 rfl (hb C.2.1 hd) rfl h) k
theorem W.lushr {x : Int64} {y : Int32} (hd : decode B.2.2.1 pc = .ok (.lushr, 1)) (hp : pc + 1 = pc') (k : W l Z n0 B R Q cells slots σ pc' ls (.long (XT.ushrL x y) :: st)) : W l Z n0 B R Q cells slots σ pc ls (.int y :: .long x :: st) := by
  subst hp; exact W.of (fun p e s m args below meth c T locs C X t h => XT.lushr X.here C.1 rfl (hb C.2.1 hd) rfl h) k
theorem W.lshl {x : Int64} {y : Int32} (hd : decode B.2.2.1 pc = .ok (.lshl, 1)) (hp : pc + 1 = pc') (k : W l Z n0 B R Q cells slots σ pc' ls (.long (x <<< (y.toInt64 &&& 63)) :: st)) : W l Z n0 B R Q cells slots σ pc ls (.int y :: .long x :: st) := by
  subst hp; exact W.of (fun p e s m args below meth c T locs C X t h => XT.lshl X.here C.1 rfl (hb C.2.1 hd) rfl h) k
theorem W.lcmp {x : Int64} {y : Int64} (hd : decode B.2.2.1 pc = .ok (.lcmp, 1)) (hp : pc + 1 = pc') (k : W l Z n0 B R Q cells slots σ pc' ls (.int (XT.cmpL x y) :: st)) : W l Z n0 B R Q cells slots σ pc ls (.long y :: .long x :: st) := by
  subst hp; exact W.of (fun p e s m args below meth c T locs C X t h => XT.lcmp X.here C.1 rfl (hb C.2.1 hd) rfl h) k
theorem W.i2l {x : Int32} (hd : decode B.2.2.1 pc = .ok (.i2l, 1)) (hp : pc + 1 = pc') (k : W l Z n0 B R Q cells slots σ pc' ls (.long (x.toInt64) :: st)) : W l Z n0 B R Q cells slots σ pc ls (.int x :: st) := by
  subst hp; exact W.of (fun p e s m args below meth c T locs C X t h => XT.i2l X.here C.1 rfl (hb C.2.1 hd) rfl h) k
theorem W.l2i {x : Int64} (hd : decode B.2.2.1 pc = .ok (.l2i, 1)) (hp : pc + 1 = pc') (k : W l Z n0 B R Q cells slots σ pc' ls (.int (x.toInt32) :: st)) : W l Z n0 B R Q cells slots σ pc ls (.long x :: st) := by
  subst hp; exact W.of (fun p e s m args below meth c T locs C X t h => XT.l2i X.here C.1 rfl (hb C.2.1 hd) rfl h) k
theorem W.i2b {x : Int32} (hd : decode B.2.2.1 pc = .ok (.i2b, 1)) (hp : pc + 1 = pc') (k : W l Z n0 B R Q cells slots σ pc' ls (.int (x.toInt8.toInt32) :: st)) : W l Z n0 B R Q cells slots σ pc ls (.int x :: st) := by
  subst hp; exact W.of (fun p e s m args below meth c T locs C X t h => XT.i2b X.here C.1 rfl (hb C.2.1 hd) rfl h) k
theorem W.i2c {x : Int32} (hd : decode B.2.2.1 pc = .ok (.i2c, 1)) (hp : pc + 1 = pc') (k : W l Z n0 B R Q cells slots σ pc' ls (.int (x.toUInt32.toUInt16.toUInt32.toInt32) :: st)) : W l Z n0 B R Q cells slots σ pc ls (.int x :: st) := by
  subst hp; exact W.of (fun p e s m args below meth c T locs C X t h => XT.i2c X.here C.1 rfl (hb C.2.1 hd) rfl h) k
theorem W.idiv {x y : Int32} (hd : decode B.2.2.1 pc = .ok (.idiv, 1)) (hp : pc + 1 = pc') (hy : y ≠ 0) (k : W l Z n0 B R Q cells slots σ pc' ls (.int (x / y) :: st)) : W l Z n0 B R Q cells slots σ pc ls (.int y :: .int x :: st) := by
  subst hp; exact W.of (fun p e s m args below meth c T locs C X t h => XS.idiv X.here C.1 rfl (hb C.2.1 hd) rfl hy h) k
theorem W.irem {x y : Int32} (hd : decode B.2.2.1 pc = .ok (.irem, 1)) (hp : pc + 1 = pc') (hy : y ≠ 0) (k : W l Z n0 B R Q cells slots σ pc' ls (.int (x % y) :: st)) : W l Z n0 B R Q cells slots σ pc ls (.int y :: .int x :: st) := by
  subst hp; exact W.of (fun p e s m args below meth c T locs C X t h => iremM X C.1 rfl (hb C.2.1 hd) rfl hy h) k
theorem W.dup {x : Value} (hd : decode B.2.2.1 pc = .ok (.dup, 1)) (hp : pc + 1 = pc') (hc : x.category = 1) (k : W l Z n0 B R Q cells slots σ pc' ls (x :: x :: st)) : W l Z n0 B R Q cells slots σ pc ls (x :: st) := by
  subst hp; exact W.of (fun p e s m args below meth c T locs C X t h => XS.dup X.here C.1 rfl (hb C.2.1 hd) rfl hc h) k
theorem W.pop {x : Value} (hd : decode B.2.2.1 pc = .ok (.pop, 1)) (hp : pc + 1 = pc') (hc : x.category = 1) (k : W l Z n0 B R Q cells slots σ pc' ls st) : W l Z n0 B R Q cells slots σ pc ls (x :: st) := by
  subst hp; exact W.of (fun p e s m args below meth c T locs C X t h => XT.pop X.here C.1 rfl (hb C.2.1 hd) rfl hc h) k
theorem W.dupX1 {x y : Value} (hd : decode B.2.2.1 pc = .ok (.dup_x1, 1)) (hp : pc + 1 = pc') (hc : x.category = 1) (hc' : y.category = 1) (k : W l Z n0 B R Q cells slots σ pc' ls (x :: y :: x :: st)) : W l Z n0 B R Q cells slots σ pc ls (x :: y :: st) := by
  subst hp; exact W.of (fun p e s m args below meth c T locs C X t h => XT.dupX1 X.here C.1 rfl (hb C.2.1 hd) rfl hc hc' h) k
/-! branches -/
theorem W.goto {o : Int} (hd : decode B.2.2.1 pc = .ok (.goto o, 3)) (ho : 0 ≤ (pc : Int) + o) (hp : ((pc : Int) + o).toNat = pc') (k : W l Z n0 B R Q cells slots σ pc' ls st) : W l Z n0 B R Q cells slots σ pc ls st :=
  W.of (fun p e s m args below meth c T locs C X t h => XS.goto X.here C.1 rfl rfl (hb C.2.1 hd) ho hp h) k
theorem W.ifY {cd : ClassFile.Cond} {x : Int32} {o : Int} (hd : decode B.2.2.1 pc = .ok (.ifCond cd o, 3)) (hc : ifCond.holds cd x = true) (ho : 0 ≤ (pc : Int) + o) (hp : ((pc : Int) + o).toNat = pc') (k : W l Z n0 B R Q cells slots σ pc' ls st) : W l Z n0 B R Q cells slots σ pc ls (.int x :: st) :=
  W.of (fun p e s m args below meth c T locs C X t h => XS.ifYes X.here C.1 rfl rfl (hb C.2.1 hd) rfl hc ho hp h) k
theorem W.ifN {cd : ClassFile.Cond} {x : Int32} {o : Int} (hd : decode B.2.2.1 pc = .ok (.ifCond cd o, 3)) (hc : ifCond.holds cd x = false) (hp : pc + 3 = pc') (k : W l Z n0 B R Q cells slots σ pc' ls st) : W l Z n0 B R Q cells slots σ pc ls (.int x :: st) := by
  subst hp; exact W.of (fun p e s m args below meth c T locs C X t h => XS.ifNo X.here C.1 rfl (hb C.2.1 hd) rfl hc h) k
theorem W.icmpY {cd : ClassFile.Cond} {x y : Int32} {o : Int} (hd : decode B.2.2.1 pc = .ok (.if_icmp cd o, 3)) (hc : if_icmp.holds cd x y = true) (ho : 0 ≤ (pc : Int) + o) (hp : ((pc : Int) + o).toNat = pc') (k : W l Z n0 B R Q cells slots σ pc' ls st) : W l Z n0 B R Q cells slots σ pc ls (.int y :: .int x :: st) :=
  W.of (fun p e s m args below meth c T locs C X t h => XS.icmpYes X.here C.1 rfl rfl (hb C.2.1 hd) rfl hc ho hp h) k
theorem W.icmpN {cd : ClassFile.Cond} {x y : Int32} {o : Int} (hd : decode B.2.2.1 pc = .ok (.if_icmp cd o, 3)) (hc : if_icmp.holds cd x y = false) (hp : pc + 3 = pc') (k : W l Z n0 B R Q cells slots σ pc' ls st) : W l Z n0 B R Q cells slots σ pc ls (.int y :: .int x :: st) := by
  subst hp; exact W.of (fun p e s m args below meth c T locs C X t h => XS.icmpNo X.here C.1 rfl (hb C.2.1 hd) rfl hc h) k
theorem W.acmpY {cd : ClassFile.ACond} {x y : Value} {o : Int} (hd : decode B.2.2.1 pc = .ok (.if_acmp cd o, 3)) (hx : x.isRef = true) (hy : y.isRef = true) (hc : XT.acmp cd x y = true) (ho : 0 ≤ (pc : Int) + o) (hp : ((pc : Int) + o).toNat = pc') (k : W l Z n0 B R Q cells slots σ pc' ls st) : W l Z n0 B R Q cells slots σ pc ls (y :: x :: st) :=
  W.of (fun p e s m args below meth c T locs C X t h => XT.acmpYes X.here C.1 rfl rfl (hb C.2.1 hd) rfl hx hy hc ho hp h) k
theorem W.acmpN {cd : ClassFile.ACond} {x y : Value} {o : Int} (hd : decode B.2.2.1 pc = .ok (.if_acmp cd o, 3)) (hx : x.isRef = true) (hy : y.isRef = true) (hc : XT.acmp cd x y = false) (hp : pc + 3 = pc') (k : W l Z n0 B R Q cells slots σ pc' ls st) : W l Z n0 B R Q cells slots σ pc ls (y :: x :: st) := by
  subst hp; exact W.of (fun p e s m args below meth c T locs C X t h => XT.acmpNo X.here C.1 rfl (hb C.2.1 hd) rfl hx hy hc h) k
theorem W.nullY {o : Int} (hd : decode B.2.2.1 pc = .ok (.ifnull o, 3)) (ho : 0 ≤ (pc : Int) + o) (hp : ((pc : Int) + o).toNat = pc') (k : W l Z n0 B R Q cells slots σ pc' ls st) : W l Z n0 B R Q cells slots σ pc ls (.null :: st) :=
  W.of (fun p e s m args below meth c T locs C X t h => XS.ifnullYes X.here C.1 rfl rfl (hb C.2.1 hd) rfl ho hp h) k
theorem W.nullN {a : Addr} {o : Int} (hd : decode B.2.2.1 pc = .ok (.ifnull o, 3)) (hp : pc + 3 = pc') (k : W l Z n0 B R Q cells slots σ pc' ls st) : W l Z n0 B R Q cells slots σ pc ls (.ref a :: st) := by
  subst hp; exact W.of (fun p e s m args below meth c T locs C X t h => XS.ifnullNo X.here C.1 rfl (hb C.2.1 hd) rfl h) k
theorem W.nonnullY {a : Addr} {o : Int} (hd : decode B.2.2.1 pc = .ok (.ifnonnull o, 3)) (ho : 0 ≤ (pc : Int) + o) (hp : ((pc : Int) + o).toNat = pc') (k : W l Z n0 B R Q cells slots σ pc' ls st) : W l Z n0 B R Q cells slots σ pc ls (.ref a :: st) :=
  W.of (fun p e s m args below meth c T locs C X t h => XT.ifnonnullYes X.here C.1 rfl rfl (hb C.2.1 hd) rfl ho hp h) k
theorem W.nonnullN {o : Int} (hd : decode B.2.2.1 pc = .ok (.ifnonnull o, 3)) (hp : pc + 3 = pc') (k : W l Z n0 B R Q cells slots σ pc' ls st) : W l Z n0 B R Q cells slots σ pc ls (.null :: st) := by
  subst hp; exact W.of (fun p e s m args below meth c T locs C X t h => XT.ifnonnullNo X.here C.1 rfl (hb C.2.1 hd) rfl h) k
/-! returns -/
theorem W.fin {v : Option Value} (hv : B.2.2.2.2 = none → v = none) (hc : cells ≤ R.cells) (hs : slots ≤ R.slots) (hQ : Q v σ)
    (hstep : ∀ (p : Program) (e : Env) (s : State) (m : MethodId) (args : Array Value) (below : List Frame) (meth : Method) (c : Code) (T : State) (locs : List Loc), Cx p s m meth c Z B → Stand p l e R s m args below meth c T locs cells slots → ∀ fs, (∀ (f : JFrame) (acts : List Action), f.method = m → f.locked = none → f.entered = [] → (doReturn e (T.setTop f) acts v).1 = T.setFrames fs) → Steps p.tables e below (T.setTop (mkF m pc ls st)) (T.setFrames fs)) :
    W l Z n0 B R Q cells slots σ pc ls st := by
  intro p e s m args below meth c T locs C X N S
  obtain ⟨fs, hr, hrun, hended, hW, hsame⟩ := X.leave (v := v) (fun h => hv (C.2.2.2.2.2.2.1.symm.trans h)) C.2.2.2.2.2.2.2
  exact ⟨_, _, hstep p e s m args below meth c T locs C X fs hr, hrun, hended, v, locs, rfl, ⟨⟨σ, hQ, S⟩, N⟩, ⟨_, rfl⟩, hW, hsame.mono hc hs⟩
theorem W.retN {t : FieldType} {z : Int32} (z' : Int32) (hd : decode B.2.2.1 pc = .ok (.ireturn, 1)) (hr : B.2.2.2.2 = some t) (ht : t = .boolean ∨ t = .byte ∨ t = .char ∨ t = .short) (hz : nar t z = z') (hc : cells ≤ R.cells) (hs : slots ≤ R.slots) (hQ : Q (some (.int z')) σ) : W l Z n0 B R Q cells slots σ pc ls (.int z :: st) := by
  subst hz; exact W.fin (fun h => by rw [hr] at h; cases h) hc hs hQ (fun p e s m args below meth c T locs C X fs h => RoadKit.retN X C.1 (C.2.2.2.2.2.2.1.trans hr) ht (hb C.2.1 hd) h)
theorem W.retI {z : Int32} (hd : decode B.2.2.1 pc = .ok (.ireturn, 1)) (hr : B.2.2.2.2 = some .int) (hc : cells ≤ R.cells) (hs : slots ≤ R.slots) (hQ : Q (some (.int z)) σ) : W l Z n0 B R Q cells slots σ pc ls (.int z :: st) :=
  W.fin (fun h => by rw [hr] at h; cases h) hc hs hQ (fun p e s m args below meth c T locs C X fs h => retOut X C.1 (t := .int) (C.2.2.2.2.2.2.1.trans hr) rfl (Or.inl ⟨rfl, Or.inl rfl, _, rfl⟩) (hb C.2.1 hd) h)
theorem W.retJ {z : Int64} (hd : decode B.2.2.1 pc = .ok (.lreturn, 1)) (hr : B.2.2.2.2 = some .long) (hc : cells ≤ R.cells) (hs : slots ≤ R.slots) (hQ : Q (some (.long z)) σ) : W l Z n0 B R Q cells slots σ pc ls (.long z :: st) :=
  W.fin (fun h => by rw [hr] at h; cases h) hc hs hQ (fun p e s m args below meth c T locs C X fs h => retOut X C.1 (t := .long) (C.2.2.2.2.2.2.1.trans hr) rfl (Or.inr (Or.inl ⟨rfl, rfl, _, rfl⟩)) (hb C.2.1 hd) h)
theorem W.retA {t : FieldType} {v : Value} (hd : decode B.2.2.1 pc = .ok (.areturn, 1)) (hr : B.2.2.2.2 = some t) (ht : t.isReference = true) (hn : narrow t v = v) (hv : v.isRef = true) (hc : cells ≤ R.cells) (hs : slots ≤ R.slots) (hQ : Q (some v) σ) : W l Z n0 B R Q cells slots σ pc ls (v :: st) :=
  W.fin (fun h => by rw [hr] at h; cases h) hc hs hQ (fun p e s m args below meth c T locs C X fs h => retOut X C.1 (t := t) (C.2.2.2.2.2.2.1.trans hr) hn (Or.inr (Or.inr (Or.inr (Or.inr ⟨rfl, ht, hv⟩)))) (hb C.2.1 hd) h)
theorem W.retV (hd : decode B.2.2.1 pc = .ok (.return_, 1)) (hr : B.2.2.2.2 = none) (hc : cells ≤ R.cells) (hs : slots ≤ R.slots) (hQ : Q none σ) : W l Z n0 B R Q cells slots σ pc ls [] :=
  W.fin (fun _ => rfl) hc hs hQ (fun p e s m args below meth c T locs C X fs h => X.returnOut C.1 (C.2.2.2.2.2.2.1.trans hr) (hb C.2.1 hd) h)
/-! calls -/
theorem W.back {y : MethodName} {bytes : ByteArray} {maxL : Nat} {ret : Option FieldType} {rm : Room} {as : List Value} {Qc : Option Value → Asn → Prop} {len Wd : Nat} (hS : Sp l Z n0 y bytes maxL ret rm as σ Qc) {h : Heap} (hsep : Sep Z n0 h σ)
    {p : Program} {e : Env} {below : List Frame} {s : State} {args : Array Value} (hZ : Z.Warmed39 s.vm) (wc : (Jvm.Cond.code y bytes maxL ret).before a0 Z = true) (wz : (Jvm.Cond.initialized y.cls).before a0 Z = true) (hf : rm.frames + 1 ≤ R.frames) (hl : Wd + (maxL + 11) + rm.locals ≤ R.locals) :
    Back l R p e below s args y len Wd (fun A a => a = as.toArray ∧ A.U.heap = h ∧ A.cells + rm.cells ≤ R.cells ∧ A.slots + rm.slots ≤ R.slots)
      (fun A _ v B => ∃ L, ((∃ σ', Qc v σ' ∧ Sep Z n0 B.U.heap σ') ∧ Fr n0 L) ∧ B.locs = A.locs ++ L ∧ B.cells = A.cells + rm.cells ∧ B.slots = A.slots + rm.slots) :=
  backOf (Q := fun v h' L => (∃ σ', Qc v σ' ∧ Sep Z n0 h' σ') ∧ Fr n0 L) (hS [] h hsep) hZ wc wz hf hl
theorem W.callS {y : MethodName} {bytes : ByteArray} {maxL : Nat} {ret : Option FieldType} {rm : Room} {as : List Value} {Qc : Option Value → Asn → Prop} {i : Nat} {sg : MethodDescriptor} (hS : Sp l Z n0 y bytes maxL ret rm as σ Qc)
    (hd : decode B.2.2.1 pc = .ok (.invokestatic i, 3)) (w1 : (Jvm.Cond.methodLink B.1 i y).before a0 Z = true) (w2 : (Jvm.Cond.static y).before a0 Z = true) (wz : (Jvm.Cond.initialized y.cls).before a0 Z = true) (wc : (Jvm.Cond.code y bytes maxL ret).before a0 Z = true)
    (hy : y.cls ≠ "java/lang/invoke/MethodHandle" ∧ y.cls ≠ "java/lang/invoke/VarHandle") (hsg : parseMethodDescriptor y.desc = some sg) (hln : as.length = sg.parameters.length) (hst : st = as.reverse ++ rest)
    (hf : rm.frames + 1 ≤ R.frames) (hl : (rest.map fun v => v.category).sum + (maxL + 11) + rm.locals ≤ R.locals) (hc : cells + rm.cells ≤ R.cells) (hs : slots + rm.slots ≤ R.slots) (hsz : ls.size = B.2.2.2.1) (hp : pc + 3 = pc')
    (k : ∀ v σ', Qc v σ' → W l Z n0 B R Q (cells + rm.cells) (slots + rm.slots) σ' pc' ls (v.toList ++ rest)) : W l Z n0 B R Q cells slots σ pc ls st := by
  subst hp
  intro p e s m args below meth c T locs C X N S
  obtain ⟨hx, hby, hml, hown, hnm, hZ, hrt, hlk⟩ := C
  obtain ⟨v, _, ⟨T8, L8, k8, n8⟩, -, X8, ⟨Lc8, ⟨⟨σ', hQ8, hS8⟩, hF8⟩, l8, y8, z8⟩, st8⟩ := Jvm.LawKit.callS X hx (y := y) hown (mvT hZ w1) (mvT hZ w2) (mvT hZ wz) (mvT hZ wc) hy (W.back (a0 := a0) hS S hZ wc wz hf hl) (g := (mkF m pc ls st)) rfl (by rw [hml]; exact hsz) (argsL := as) (rest := rest) (lenOf hsg hln) hst (by show 2 * 0 + _ ≤ _; omega) (hb hby hd) (fun _ _ => ⟨rfl, rfl, hc, hs⟩)
  dsimp only [Pt.U, Pt.locs, Pt.cells, Pt.slots] at X8 l8 y8 z8 st8 hS8
  subst l8 y8 z8
  obtain ⟨u, o, h1, h2⟩ := k v σ' hQ8 p e s m args below meth c T8 _ ⟨hx, hby, hml, hown, hnm, hZ, hrt, hlk⟩ X8 (N.app hF8) hS8
  exact ⟨u, o, st8 _ h1, h2⟩
end Rules
/-! OWN FRAMEWORK, part 2: the heap -/
def ObjP (Z : State) (C : String) (fs : List (String × String × String × Value)) (c : Cell) : Prop :=
  Exa Z #[c] 0 C ∧ (∀ f ∈ fs, Fld Z #[c] 0 f.1 f.2.1 f.2.2.1 f.2.2.2) ∧ fs.Pairwise (fun f f' => RoadKit.slotOf Z f.1 f.2.1 f.2.2.1 ≠ RoadKit.slotOf Z f'.1 f'.2.1 f'.2.2.1)
def IA (Z : State) (ty : FieldType) (xs : List Int32) (c : Cell) : Prop := Z.isArrayOf c ty ∧ c.vm ≠ .unknown ∧ c.slots.toList = xs.map Value.int
def LA (Z : State) (xs : List Int64) (c : Cell) : Prop := Z.isArrayOf c .long ∧ c.vm ≠ .unknown ∧ c.slots.toList = xs.map Value.long
def LaidL (Z : State) (a0 : Array Value) (C : String) : List (String × String × String × Value) → Prop
  | [] => True
  | f :: fs => (Laid Z a0 C f.1 f.2.1 f.2.2.1 ∧ ∃ ty, parseFieldDescriptor f.2.2.1 = some ty ∧ f.2.2.2 = defaultValue ty) ∧ LaidL Z a0 C fs
section Heap
variable {Z : State} {n0 : Nat} {h h' : Heap} {σ σ' : Asn} {a b : Addr} {P P' : Cell → Prop} {i j : Nat} {c : Cell} {C n d : String} {v : Value} {sl : Nat}
theorem fld_out (F : Fld Z #[c] 0 C n d v) (q : h[a]? = some c) : Fld Z h a C n d v := by
  obtain ⟨cell, cf, k, i, f, h1, r⟩ := F
  obtain rfl : c = cell := by simpa using h1
  exact ⟨c, cf, k, i, f, q, r⟩
theorem fld_in (F : Fld Z h a C n d v) (q : h[a]? = some c) : Fld Z #[c] 0 C n d v := by
  obtain ⟨cell, cf, k, i, f, h1, r⟩ := F
  cases q.symm.trans h1
  exact ⟨c, cf, k, i, f, rfl, r⟩
theorem exa_out (F : Exa Z #[c] 0 C) (q : h[a]? = some c) : Exa Z h a C := by
  obtain ⟨cell, k, h1, r⟩ := F
  obtain rfl : c = cell := by simpa using h1
  exact ⟨c, k, q, r⟩
theorem exa_in (F : Exa Z h a C) (q : h[a]? = some c) : Exa Z #[c] 0 C := by
  obtain ⟨cell, k, h1, r⟩ := F
  cases q.symm.trans h1
  exact ⟨c, k, rfl, r⟩
theorem Sep.get (S : Sep Z n0 h σ) (hi : σ[i]? = some (a, P)) : n0 ≤ a ∧ ∃ c : Cell, h[a]? = some c ∧ P c := S.2.1 _ (List.mem_of_getElem? hi)
theorem Sep.ne (S : Sep Z n0 h σ) (hi : σ[i]? = some (a, P)) (hj : σ[j]? = some (b, P')) (hij : i ≠ j) : a ≠ b := by
  have hi' : (σ.map (fun x => x.1))[i]? = some a := by simp [hi]
  have hj' : (σ.map (fun x => x.1))[j]? = some b := by simp [hj]
  obtain ⟨l1, e1⟩ := List.getElem?_eq_some_iff.mp hi'
  obtain ⟨l2, e2⟩ := List.getElem?_eq_some_iff.mp hj'
  have hN := List.pairwise_iff_getElem.mp S.2.2
  rcases Nat.lt_or_gt_of_ne hij with q | q
  · have := hN i j l1 l2 q; rwa [e1, e2] at this
  · have := hN j i l2 l1 q; rw [e1, e2] at this; exact fun z => this z.symm
theorem Sep.lt (S : Sep Z n0 h σ) (hi : σ[i]? = some (a, P)) : a < h.size := by
  obtain ⟨-, c, hc, -⟩ := S.get hi
  exact (Array.getElem?_eq_some_iff.mp hc).1
theorem Sep.set (S : Sep Z n0 h σ) (hi : σ[i]? = some (a, P)) (hW : Wr h h' a sl v) (hP : ∀ c : Cell, h[a]? = some c → P c → P' (c.setSlot sl v)) : Sep Z n0 h' (σ.set i (a, P')) := by
  obtain ⟨hn, c, hc, hp⟩ := S.get hi
  refine ⟨S.1.wr hW hn, ?_, ?_⟩
  · intro x hx
    obtain ⟨j, hj⟩ := List.mem_iff_getElem?.mp hx
    by_cases hij : i = j
    · subst hij
      have hlt := (List.getElem?_eq_some_iff.mp hi).1
      rw [List.getElem?_set_self hlt] at hj
      cases hj
      obtain ⟨c', e1, -, -, -, -, -, e7⟩ := wr_at hW hc
      exact ⟨hn, c.setSlot sl v, by rw [← (e7 rfl).1]; exact e1, hP c hc hp⟩
    · rw [List.getElem?_set_ne hij] at hj
      obtain ⟨xb, xP⟩ := x
      obtain ⟨hn2, c2, hc2, hp2⟩ := S.get hj
      have hne := S.ne hj hi (Ne.symm hij)
      obtain ⟨c', e1, -, -, -, e5, -⟩ := wr_at hW hc2
      exact ⟨hn2, c2, by rw [← e5 hne]; exact e1, hp2⟩
  · have e : (σ.set i (a, P')).map (fun x => x.1) = σ.map (fun x => x.1) := by
      apply List.ext_getElem?
      intro j
      simp only [List.getElem?_map]
      by_cases hij : i = j
      · subst hij
        rw [List.getElem?_set_self (List.getElem?_eq_some_iff.mp hi).1, hi]; rfl
      · rw [List.getElem?_set_ne hij]
    rw [e]; exact S.2.2
theorem Sep.ext (S : Sep Z n0 h σ) (E : Ext h h') : Sep Z n0 h' σ := ⟨S.1.ext E, fun x hx => by obtain ⟨q1, c, q2, q3⟩ := S.2.1 x hx; exact ⟨q1, c, E.2 _ _ q2, q3⟩, S.2.2⟩
theorem Sep.size (S : Sep Z n0 h σ) : n0 ≤ h.size := by rw [← S.1.1]; exact S.1.2.1
theorem Sep.new (S : Sep Z n0 h σ) (E : Ext h h') (hc : h'[h.size]? = some c) (hP : P c) : Sep Z n0 h' ((h.size, P) :: σ) := by
  refine ⟨S.1.ext E, fun x hx => ?_, ?_⟩
  · rcases List.mem_cons.mp hx with rfl | q
    · exact ⟨S.size, c, hc, hP⟩
    · exact (S.ext E).2.1 x q
  · rw [List.map_cons, List.nodup_cons]
    refine ⟨fun q => ?_, S.2.2⟩
    obtain ⟨x, hx, e⟩ := List.mem_map.mp q
    obtain ⟨-, c', hc', -⟩ := S.2.1 x hx
    exact absurd e (Nat.ne_of_lt (Array.getElem?_eq_some_iff.mp hc').1)
theorem Sep.perm (S : Sep Z n0 h σ) (hp : σ.Perm σ') : Sep Z n0 h σ' := ⟨S.1, fun x hx => S.2.1 x (hp.mem_iff.mpr hx), (hp.map (fun x => x.1)).nodup_iff.mp S.2.2⟩
theorem Sep.pull {x : Addr × (Cell → Prop)} (S : Sep Z n0 h σ) (hi : σ[i]? = some x) : Sep Z n0 h (x :: σ.eraseIdx i) := by
  obtain ⟨l1, e1⟩ := List.getElem?_eq_some_iff.mp hi
  subst e1
  refine S.perm ?_
  have e : σ = σ.take i ++ σ[i] :: σ.drop (i + 1) := by rw [← List.drop_eq_getElem_cons l1, List.take_append_drop]
  rw [List.eraseIdx_eq_take_drop_succ]
  conv => lhs; rw [e]
  exact List.perm_middle
theorem Sep.sub (S : Sep Z n0 h σ) (hs : σ'.Sublist σ) : Sep Z n0 h σ' := ⟨S.1, fun x hx => S.2.1 x (hs.subset hx), List.Nodup.sublist (hs.map (fun x => x.1)) S.2.2⟩
theorem ObjP.put {fs : List (String × String × String × Value)} {O nm ds : String} {old : Value} (H : ObjP Z C fs c) (hf : fs[j]? = some (O, nm, ds, old)) (q : h[a]? = some c) (W : Wr h h' a (RoadKit.slotOf Z O nm ds) v) : ObjP Z C (fs.set j (O, nm, ds, v)) (c.setSlot (RoadKit.slotOf Z O nm ds) v) := by
  obtain ⟨h1, h2, h3⟩ := H
  obtain ⟨c', e1, -, -, -, -, -, e7⟩ := wr_at W q
  have q' : h'[a]? = some (c.setSlot (RoadKit.slotOf Z O nm ds) v) := by rw [← (e7 rfl).1]; exact e1
  have hlt := (List.getElem?_eq_some_iff.mp hf).1
  refine ⟨exa_in ((exa_out h1 q).wr W) q', ?_, ?_⟩
  · intro f hfm
    obtain ⟨i, hi⟩ := List.mem_iff_getElem?.mp hfm
    by_cases hij : j = i
    · subst hij
      rw [List.getElem?_set_self hlt] at hi
      cases hi
      exact fld_in ((fld_out (h2 _ (List.mem_of_getElem? hf)) q).same W) q'
    · rw [List.getElem?_set_ne hij] at hi
      refine fld_in ((fld_out (h2 _ (List.mem_of_getElem? hi)) q).other W (Or.inr ?_)) q'
      obtain ⟨l1, r1⟩ := List.getElem?_eq_some_iff.mp hf
      obtain ⟨l2, r2⟩ := List.getElem?_eq_some_iff.mp hi
      have hN := List.pairwise_iff_getElem.mp h3
      rcases Nat.lt_or_gt_of_ne hij with z | z
      · have := hN j i l1 l2 z; rw [r1, r2] at this; exact fun y => this y.symm
      · have := hN i j l2 l1 z; rwa [r1, r2] at this
  · refine List.pairwise_iff_getElem.mpr fun i k hi hk hik => ?_
    have hN := List.pairwise_iff_getElem.mp h3
    have sl_eq : ∀ t (ht : t < (fs.set j (O, nm, ds, v)).length) (ht' : t < fs.length), RoadKit.slotOf Z (fs.set j (O, nm, ds, v))[t].1 (fs.set j (O, nm, ds, v))[t].2.1 (fs.set j (O, nm, ds, v))[t].2.2.1 = RoadKit.slotOf Z fs[t].1 fs[t].2.1 fs[t].2.2.1 := by
      intro t ht ht'
      rw [List.getElem_set]
      split
      · rename_i e; subst e
        have := (List.getElem?_eq_some_iff.mp hf).2
        rw [this]
      · rfl
    have hi' : i < fs.length := by simpa using hi
    have hk' : k < fs.length := by simpa using hk
    rw [sl_eq i hi hi', sl_eq k hk hk']
    exact hN i k hi' hk' hik
theorem laid_mem {a0 : Array Value} : ∀ {fs : List (String × String × String × Value)}, LaidL Z a0 C fs → ∀ f ∈ fs, Laid Z a0 C f.1 f.2.1 f.2.2.1 ∧ ∃ ty, parseFieldDescriptor f.2.2.1 = some ty ∧ f.2.2.2 = defaultValue ty
  | [], _, f, hf => nomatch hf
  | g :: fs, H, f, hf => by
    rcases List.mem_cons.mp hf with rfl | q
    · exact H.1
    · exact laid_mem H.2 f q
theorem laid_pair {a0 : Array Value} {fs : List (String × String × String × Value)} (H : LaidL Z a0 C fs) (hN : (fs.map (fun f => f.2.1)).Nodup) : fs.Pairwise (fun f f' => RoadKit.slotOf Z f.1 f.2.1 f.2.2.1 ≠ RoadKit.slotOf Z f'.1 f'.2.1 f'.2.2.1) := by
  refine List.pairwise_iff_getElem.mpr fun i j hi hj hij => ?_
  obtain ⟨L1, t1, p1, -⟩ := laid_mem H _ (List.getElem_mem hi)
  obtain ⟨L2, t2, p2, -⟩ := laid_mem H _ (List.getElem_mem hj)
  have hn := List.pairwise_iff_getElem.mp hN i j (by simpa using hi) (by simpa using hj) hij
  simp only [List.getElem_map] at hn
  exact RoadKit.slot_ne L1 L2 hn p1 p2
end Heap
section Rules2
variable {l : Launch} {Z : State} {n0 : Nat} {B : Bdy} {R : Room} {Q : Option Value → Asn → Prop} {cells slots : Nat} {σ : Asn} {pc pc' : Nat} {ls ls' : Array Slot} {st st' rest : List Value} {a0 : Array Value}
theorem W.conv {σ' : Asn} (hσ : ∀ h, Sep Z n0 h σ → Sep Z n0 h σ') (k : W l Z n0 B R Q cells slots σ' pc ls st) : W l Z n0 B R Q cells slots σ pc ls st :=
  fun p e s m args below meth c T locs C X N S => k p e s m args below meth c T locs C X N (hσ _ S)
theorem W.pull (τ : Asn) (i : Nat) {x : Addr × (Cell → Prop)} (hi : σ[i]? = some x) (hτ : σ.eraseIdx i = τ) (k : W l Z n0 B R Q cells slots (x :: τ) pc ls st) : W l Z n0 B R Q cells slots σ pc ls st := by
  subst hτ; exact W.conv (fun _ S => S.pull hi) k
def pulls : Asn → List Nat → Asn
  | σ, [] => σ
  | σ, i :: is => pulls (match σ[i]? with | some x => x :: σ.eraseIdx i | none => σ) is
theorem Sep.pulls {h : Heap} : ∀ (is : List Nat) (σ : Asn), Sep Z n0 h σ → Sep Z n0 h (pulls σ is)
  | [], σ, S => S
  | i :: is, σ, S => by
    refine Sep.pulls is _ ?_
    cases hx : σ[i]? with
    | none => exact S
    | some x => exact S.pull hx
theorem W.pulls (τ : Asn) (is : List Nat) (hτ : pulls σ is = τ) (k : W l Z n0 B R Q cells slots τ pc ls st) : W l Z n0 B R Q cells slots σ pc ls st := by
  subst hτ; exact W.conv (fun _ S => S.pulls is σ) k
theorem W.ne (i j : Nat) {a b : Addr} {P P' : Cell → Prop} (hi : σ[i]? = some (a, P)) (hj : σ[j]? = some (b, P')) (hij : i ≠ j) (k : a ≠ b → W l Z n0 B R Q cells slots σ pc ls st) : W l Z n0 B R Q cells slots σ pc ls st :=
  fun p e s m args below meth c T locs C X N S => k (S.ne hi hj hij) p e s m args below meth c T locs C X N S
theorem W.of2 {σ' : Asn} {cells' slots' : Nat} (hstep : ∀ (p : Program) (e : Env) (s : State) (m : MethodId) (args : Array Value) (below : List Frame) (meth : Method) (c : Code) (T : State) (locs : List Loc), Cx p s m meth c Z B → Stand p l e R s m args below meth c T locs cells slots → Fr n0 locs → Sep Z n0 T.heap σ →
      ∃ (T' : State) (locs' : List Loc), Stand p l e R s m args below meth c T' locs' cells' slots' ∧ Fr n0 locs' ∧ Sep Z n0 T'.heap σ' ∧ ∀ t, Steps p.tables e below (T'.setTop (mkF m pc' ls' st')) t → Steps p.tables e below (T.setTop (mkF m pc ls st)) t)
    (k : W l Z n0 B R Q cells' slots' σ' pc' ls' st') : W l Z n0 B R Q cells slots σ pc ls st := by
  intro p e s m args below meth c T locs C X N S
  obtain ⟨T', locs', X', N', S', st⟩ := hstep p e s m args below meth c T locs C X N S
  obtain ⟨u, o, h1, h2⟩ := k p e s m args below meth c T' locs' C X' N' S'
  exact ⟨u, o, st u h1, h2⟩
theorem W.getF (i j : Nat) {idx : Nat} {a : Addr} {C R0 O n d host : String} {fs : List (String × String × String × Value)} {v : Value} (hd : decode B.2.2.1 pc = .ok (.getfield idx, 3)) (w : (Jvm.Cond.fieldLink B.1 idx R0 n d).before a0 Z = true ∨ (Jvm.Cond.fieldLinkNest B.1 idx R0 n d host).before a0 Z = true) (via : Via Z R0 O n d)
    (hi : σ[i]? = some (a, ObjP Z C fs)) (hf : fs[j]? = some (O, n, d, v)) (hp : pc + 3 = pc') (k : W l Z n0 B R Q cells slots σ pc' ls (v :: st)) : W l Z n0 B R Q cells slots σ pc ls (.ref a :: st) := by
  subst hp
  refine W.of2 (fun p e s m args below meth c T locs ⟨hx, hby, hml, hown, hnm, hZ, hrt, hlk⟩ X N S => ?_) k
  obtain ⟨-, c1, hc1, H⟩ := S.get hi
  obtain ⟨T', X', e', st'⟩ := RoadKit.getF X hx hZ hown w via rfl (fld_out (H.2.1 _ (List.mem_of_getElem? hf)) hc1) (g := mkF m pc ls (.ref a :: st)) rfl rfl (hb hby hd)
  exact ⟨T', locs, X', N, by rw [e']; exact S, st'⟩
theorem W.putF (σ' : Asn) (i j : Nat) {idx kk : Nat} {a : Addr} {C R0 O n d host : String} {ty : FieldType} {fs : List (String × String × String × Value)} {v old : Value} (hd : decode B.2.2.1 pc = .ok (.putfield idx, 3)) (w : (Jvm.Cond.fieldLink B.1 idx R0 n d).before a0 Z = true ∨ (Jvm.Cond.fieldLinkNest B.1 idx R0 n d host).before a0 Z = true) (via : Via Z R0 O n d)
    (L : (Jvm.Cond.lays C O n d).before a0 Z = true ∨ ((Jvm.Cond.laysFinal C O n d).before a0 Z = true ∧ B.1 = O ∧ B.2.1 = "<init>")) (wi : (Jvm.Cond.instantiable C kk).before a0 Z = true) (hty : parseFieldDescriptor d = some ty) (hn : narrow ty v = v) (hft : fits ty v = true)
    (hi : σ[i]? = some (a, ObjP Z C fs)) (hf : fs[j]? = some (O, n, d, old)) (hσ : σ.set i (a, ObjP Z C (fs.set j (O, n, d, v))) = σ') (hp : pc + 3 = pc') (k : W l Z n0 B R Q cells slots σ' pc' ls st) : W l Z n0 B R Q cells slots σ pc ls (v :: .ref a :: st) := by
  subst hp hσ
  refine W.of2 (fun p e s m args below meth c T locs ⟨hx, hby, hml, hown, hnm, hZ, hrt, hlk⟩ X N S => ?_) k
  obtain ⟨ha, c1, hc1, H⟩ := S.get hi
  obtain ⟨T', h', X', e', Wr', st'⟩ := RoadKit.putF X hx hZ hown w via rfl (fld_out (H.2.1 _ (List.mem_of_getElem? hf)) hc1) (exa_out H.1 hc1) (L.imp id (fun q => ⟨q.1, q.2.1, hnm.trans q.2.2⟩)) wi hty hn hft (g := mkF m pc ls (v :: .ref a :: st)) rfl rfl (hb hby hd)
  exact ⟨T', _, X', Fr.snoc X' N ha, by rw [e']; exact S.set hi Wr' (fun c2 hc2 H2 => H2.put hf hc2 Wr'), st'⟩
theorem W.getS {idx : Nat} {R0 O n d : String} {v : Value} (hd : decode B.2.2.1 pc = .ok (.getstatic idx, 3)) (w : (Jvm.Cond.fieldLink B.1 idx R0 n d).before a0 Z = true) (via : Via Z R0 O n d) (F : Sta Z Z.heap O n d v) (hp : pc + 3 = pc') (k : W l Z n0 B R Q cells slots σ pc' ls (v :: st)) : W l Z n0 B R Q cells slots σ pc ls st := by
  subst hp
  refine W.of2 (fun p e s m args below meth c T locs ⟨hx, hby, hml, hown, hnm, hZ, hrt, hlk⟩ X N S => ?_) k
  obtain ⟨T', X', e', st'⟩ := RoadKit.getS (host := "") X hx hZ hown w via rfl (F.ext S.1.2) (g := mkF m pc ls st) rfl (hb hby hd)
  exact ⟨T', locs, X', N, by rw [e']; exact S, st'⟩
theorem W.new {idx kk : Nat} {C : String} (fs : List (String × String × String × Value)) (hd : decode B.2.2.1 pc = .ok (.new idx, 3)) (w : (Jvm.Cond.classLink B.1 idx C).before a0 Z = true) (wi : (Jvm.Cond.instantiable C kk).before a0 Z = true) (wz : (Jvm.Cond.initialized C).before a0 Z = true)
    (hL : LaidL Z a0 C fs) (hN : (fs.map (fun f => f.2.1)).Nodup) (hc : cells + 1 ≤ R.cells) (hs : slots + kk ≤ R.slots) (hp : pc + 3 = pc') (k : ∀ a, W l Z n0 B R Q (cells + 1) (slots + kk) ((a, ObjP Z C fs) :: σ) pc' ls (.ref a :: st)) : W l Z n0 B R Q cells slots σ pc ls st := by
  subst hp
  intro p e s m args below meth c T locs C0 X N S
  obtain ⟨hx, hby, hml, hown, hnm, hZ, hrt, hlk⟩ := C0
  obtain ⟨T2, h2, X2, e2, E2, A2, D2, ⟨cl, hcl, -, -⟩, st2⟩ := RoadKit.newO X hx hZ hown w wi wz rfl (g := mkF m pc ls st) rfl (hb hby hd) hc hs
  have S2 : Sep Z n0 h2 ((T.heap.size, ObjP Z C fs) :: σ) := by
    refine S.new E2 hcl ⟨exa_in A2 hcl, fun f hf => ?_, laid_pair hL hN⟩
    obtain ⟨L1, ty, q1, q2⟩ := laid_mem hL f hf
    rw [q2]
    exact fld_in (D2 L1 q1) hcl
  obtain ⟨u, o, h1, h3⟩ := k T.heap.size p e s m args below meth c T2 locs ⟨hx, hby, hml, hown, hnm, hZ, hrt, hlk⟩ X2 N (by rw [e2]; exact S2)
  exact ⟨u, o, st2 u h1, h3⟩
theorem newA_list (cA : ClassId) (ty : FieldType) (n : Int32) : (newA cA ty n).slots.toList = List.replicate n.toNatClampNeg (defaultValue ty) := by simp [newA]
theorem W.newI (N : Nat) {aty : ArrayType} {n : Int32} (cap : Nat) (hd : decode B.2.2.1 pc = .ok (.newarray aty, 2)) (w : (Jvm.Cond.arrayClass (newarray.typeOf aty)).before a0 Z = true) (hdef : defaultValue (newarray.typeOf aty) = .int 0) (hn : ¬ n < 0) (hN : n.toNatClampNeg = N) (hcap : N ≤ cap) (h8 : cap * 8 ≤ 536870912)
    (hc : cells + 1 ≤ R.cells) (hs : slots + cap ≤ R.slots) (hp : pc + 2 = pc') (k : ∀ a, W l Z n0 B R Q (cells + 1) (slots + cap) ((a, IA Z (newarray.typeOf aty) (List.replicate N 0)) :: σ) pc' ls (.ref a :: st)) : W l Z n0 B R Q cells slots σ pc ls (.int n :: st) := by
  subst hp hN
  intro p e s m args below meth c T locs C0 X N S
  obtain ⟨hx, hby, hml, hown, hnm, hZ, hrt, hlk⟩ := C0
  obtain ⟨T2, h2, cA, X2, e2, E2, A2, st2⟩ := RoadKit.newP X hx hZ w rfl (g := mkF m pc ls (.int n :: st)) rfl (hb hby hd) rfl hn hcap h8 hc hs
  have S2 := S.new (P := IA Z (newarray.typeOf aty) (List.replicate n.toNatClampNeg 0)) E2 A2.1 ⟨A2.2.1, A2.2.2, by rw [newA_list, hdef, List.map_replicate]⟩
  obtain ⟨u, o, h1, h3⟩ := k T.heap.size p e s m args below meth c T2 locs ⟨hx, hby, hml, hown, hnm, hZ, hrt, hlk⟩ X2 N (by rw [e2]; exact S2)
  exact ⟨u, o, st2 u h1, h3⟩
theorem W.newJ (N : Nat) {n : Int32} (cap : Nat) (hd : decode B.2.2.1 pc = .ok (.newarray .long, 2)) (w : (Jvm.Cond.arrayClass .long).before a0 Z = true) (hn : ¬ n < 0) (hN : n.toNatClampNeg = N) (hcap : N ≤ cap) (h8 : cap * 8 ≤ 536870912)
    (hc : cells + 1 ≤ R.cells) (hs : slots + cap ≤ R.slots) (hp : pc + 2 = pc') (k : ∀ a, W l Z n0 B R Q (cells + 1) (slots + cap) ((a, LA Z (List.replicate N 0)) :: σ) pc' ls (.ref a :: st)) : W l Z n0 B R Q cells slots σ pc ls (.int n :: st) := by
  subst hp hN
  intro p e s m args below meth c T locs C0 X N S
  obtain ⟨hx, hby, hml, hown, hnm, hZ, hrt, hlk⟩ := C0
  obtain ⟨T2, h2, cA, X2, e2, E2, A2, st2⟩ := RoadKit.newP X hx hZ (aty := .long) w rfl (g := mkF m pc ls (.int n :: st)) rfl (hb hby hd) rfl hn hcap h8 hc hs
  have S2 := S.new (P := LA Z (List.replicate n.toNatClampNeg 0)) E2 A2.1 ⟨A2.2.1, A2.2.2, by rw [newA_list, List.map_replicate]; rfl⟩
  obtain ⟨u, o, h1, h3⟩ := k T.heap.size p e s m args below meth c T2 locs ⟨hx, hby, hml, hown, hnm, hZ, hrt, hlk⟩ X2 N (by rw [e2]; exact S2)
  exact ⟨u, o, st2 u h1, h3⟩
theorem slot_get {c : Cell} {vs : List Value} {n : Nat} {v : Value} (h : c.slots.toList = vs) (hv : vs[n]? = some v) : c.slots[n]? = some v ∧ n < c.slots.size := by
  have e : c.slots[n]? = some v := by rw [← Array.getElem?_toList, h]; exact hv
  exact ⟨e, (Array.getElem?_eq_some_iff.mp e).1⟩
theorem slot_set {c : Cell} {vs : List Value} (h : c.slots.toList = vs) (n : Nat) (v : Value) : (c.setSlot n v).slots.toList = vs.set n v := by rw [← h]; simp [Cell.setSlot]
theorem slot_in {c : Cell} {n : Nat} {j : Int32} (h0 : ¬ j < 0) (hn : j.toNatClampNeg = n) (h : n < c.slots.size) : ¬ (j < 0 ∨ c.slots.size ≤ j.toNatClampNeg) := by rw [hn]; exact fun q => q.elim h0 (fun z => by omega)
theorem W.iaload (i n : Nat) {a : Addr} {xs : List Int32} {j : Int32} {x : Int32} (hd : decode B.2.2.1 pc = .ok (.iaload, 1)) (hi : σ[i]? = some (a, IA Z .int xs)) (h0 : ¬ j < 0) (hn : j.toNatClampNeg = n) (hx : xs[n]? = some x) (hp : pc + 1 = pc') (k : W l Z n0 B R Q cells slots σ pc' ls (.int x :: st)) : W l Z n0 B R Q cells slots σ pc ls (.int j :: .ref a :: st) := by
  subst hp
  refine W.of2 (fun p e s m args below meth c T locs ⟨hx', hby, hml, hown, hnm, hZ, hrt, hlk⟩ X N S => ?_) k
  obtain ⟨-, c1, hc1, H1, H2, H3⟩ := S.get hi
  obtain ⟨g1, g2⟩ := slot_get (n := n) (v := .int x) H3 (by rw [List.getElem?_map, hx]; rfl)
  exact ⟨T, locs, X, N, S, fun t ht => X.iaload hx' hc1 (State.isArrayOf_alike hZ.alike H1) H2 (slot_in h0 hn g2) (by rw [hn]; exact g1) (g := mkF m pc ls (.int j :: .ref a :: st)) rfl rfl (hb hby hd) t ht⟩
theorem W.caload (i n : Nat) {a : Addr} {xs : List Int32} {j : Int32} {x : Int32} (hd : decode B.2.2.1 pc = .ok (.caload, 1)) (hi : σ[i]? = some (a, IA Z .char xs)) (h0 : ¬ j < 0) (hn : j.toNatClampNeg = n) (hx : xs[n]? = some x) (hp : pc + 1 = pc') (k : W l Z n0 B R Q cells slots σ pc' ls (.int x :: st)) : W l Z n0 B R Q cells slots σ pc ls (.int j :: .ref a :: st) := by
  subst hp
  refine W.of2 (fun p e s m args below meth c T locs ⟨hx', hby, hml, hown, hnm, hZ, hrt, hlk⟩ X N S => ?_) k
  obtain ⟨-, c1, hc1, H1, H2, H3⟩ := S.get hi
  obtain ⟨g1, g2⟩ := slot_get (n := n) (v := .int x) H3 (by rw [List.getElem?_map, hx]; rfl)
  exact ⟨T, locs, X, N, S, fun t ht => X.caload hx' hc1 (State.isArrayOf_alike hZ.alike H1) H2 (slot_in h0 hn g2) (by rw [hn]; exact g1) (g := mkF m pc ls (.int j :: .ref a :: st)) rfl rfl (hb hby hd) t ht⟩
theorem W.baload (i n : Nat) {a : Addr} {xs : List Int32} {j : Int32} {x : Int32} (hd : decode B.2.2.1 pc = .ok (.baload, 1)) (hi : σ[i]? = some (a, IA Z .byte xs)) (h0 : ¬ j < 0) (hn : j.toNatClampNeg = n) (hx : xs[n]? = some x) (hp : pc + 1 = pc') (k : W l Z n0 B R Q cells slots σ pc' ls (.int x :: st)) : W l Z n0 B R Q cells slots σ pc ls (.int j :: .ref a :: st) := by
  subst hp
  refine W.of2 (fun p e s m args below meth c T locs ⟨hx', hby, hml, hown, hnm, hZ, hrt, hlk⟩ X N S => ?_) k
  obtain ⟨-, c1, hc1, H1, H2, H3⟩ := S.get hi
  obtain ⟨g1, g2⟩ := slot_get (n := n) (v := .int x) H3 (by rw [List.getElem?_map, hx]; rfl)
  exact ⟨T, locs, X, N, S, fun t ht => X.baloadBytes hx' hc1 (State.isArrayOf_alike hZ.alike H1) H2 (slot_in h0 hn g2) (by rw [hn]; exact g1) (g := mkF m pc ls (.int j :: .ref a :: st)) rfl rfl (hb hby hd) t ht⟩
theorem W.zaload (i n : Nat) {a : Addr} {xs : List Int32} {j : Int32} {x : Int32} (hd : decode B.2.2.1 pc = .ok (.baload, 1)) (hi : σ[i]? = some (a, IA Z .boolean xs)) (h0 : ¬ j < 0) (hn : j.toNatClampNeg = n) (hx : xs[n]? = some x) (hp : pc + 1 = pc') (k : W l Z n0 B R Q cells slots σ pc' ls (.int x :: st)) : W l Z n0 B R Q cells slots σ pc ls (.int j :: .ref a :: st) := by
  subst hp
  refine W.of2 (fun p e s m args below meth c T locs ⟨hx', hby, hml, hown, hnm, hZ, hrt, hlk⟩ X N S => ?_) k
  obtain ⟨-, c1, hc1, H1, H2, H3⟩ := S.get hi
  obtain ⟨g1, g2⟩ := slot_get (n := n) (v := .int x) H3 (by rw [List.getElem?_map, hx]; rfl)
  exact ⟨T, locs, X, N, S, fun t ht => X.baloadBooleans hx' hc1 (State.isArrayOf_alike hZ.alike H1) H2 (slot_in h0 hn g2) (by rw [hn]; exact g1) (g := mkF m pc ls (.int j :: .ref a :: st)) rfl rfl (hb hby hd) t ht⟩
theorem W.laload (i n : Nat) {a : Addr} {xs : List Int64} {j : Int32} {x : Int64} (hd : decode B.2.2.1 pc = .ok (.laload, 1)) (hi : σ[i]? = some (a, LA Z xs)) (h0 : ¬ j < 0) (hn : j.toNatClampNeg = n) (hx : xs[n]? = some x) (hp : pc + 1 = pc') (k : W l Z n0 B R Q cells slots σ pc' ls (.long x :: st)) : W l Z n0 B R Q cells slots σ pc ls (.int j :: .ref a :: st) := by
  subst hp
  refine W.of2 (fun p e s m args below meth c T locs ⟨hx', hby, hml, hown, hnm, hZ, hrt, hlk⟩ X N S => ?_) k
  obtain ⟨-, c1, hc1, H1, H2, H3⟩ := S.get hi
  obtain ⟨g1, g2⟩ := slot_get (n := n) (v := .long x) H3 (by rw [List.getElem?_map, hx]; rfl)
  exact ⟨T, locs, X, N, S, fun t ht => X.laload hx' hc1 (State.isArrayOf_alike hZ.alike H1) H2 (slot_in h0 hn g2) (by rw [hn]; exact g1) (g := mkF m pc ls (.int j :: .ref a :: st)) rfl rfl (hb hby hd) t ht⟩
theorem W.iastore (σ' : Asn) (i n : Nat) {a : Addr} {xs : List Int32} {j : Int32} {x : Int32} (hd : decode B.2.2.1 pc = .ok (.iastore, 1)) (hi : σ[i]? = some (a, IA Z .int xs)) (h0 : ¬ j < 0) (hn : j.toNatClampNeg = n) (hx : n < xs.length) (hσ : σ.set i (a, IA Z .int (xs.set n (x))) = σ') (hp : pc + 1 = pc') (k : W l Z n0 B R Q cells slots σ' pc' ls st) : W l Z n0 B R Q cells slots σ pc ls (.int x :: .int j :: .ref a :: st) := by
  subst hp hσ
  refine W.of2 (fun p e s m args below meth c T locs ⟨hx', hby, hml, hown, hnm, hZ, hrt, hlk⟩ X N S => ?_) k
  obtain ⟨ha, c1, hc1, H1, H2, H3⟩ := S.get hi
  have g2 : n < c1.slots.size := by rw [← Array.length_toList, H3, List.length_map]; exact hx
  obtain ⟨T', h', X', e', W', st'⟩ := RoadKit.stI X hx' hZ rfl ⟨hc1, H1, H2⟩ (slot_in h0 hn g2) (g := mkF m pc ls (.int x :: .int j :: .ref a :: st)) rfl rfl (hb hby hd)
  rw [hn] at W'
  refine ⟨T', _, X', Fr.snoc X' N ha, ?_, st'⟩
  rw [e']
  exact S.set hi W' (fun c2 hc2 H => ⟨H.1, H.2.1, by rw [slot_set H.2.2, List.map_set]⟩)
theorem W.castore (σ' : Asn) (i n : Nat) {a : Addr} {xs : List Int32} {j : Int32} {x : Int32} (hd : decode B.2.2.1 pc = .ok (.castore, 1)) (hi : σ[i]? = some (a, IA Z .char xs)) (h0 : ¬ j < 0) (hn : j.toNatClampNeg = n) (hx : n < xs.length) (hσ : σ.set i (a, IA Z .char (xs.set n (nar .char x))) = σ') (hp : pc + 1 = pc') (k : W l Z n0 B R Q cells slots σ' pc' ls st) : W l Z n0 B R Q cells slots σ pc ls (.int x :: .int j :: .ref a :: st) := by
  subst hp hσ
  refine W.of2 (fun p e s m args below meth c T locs ⟨hx', hby, hml, hown, hnm, hZ, hrt, hlk⟩ X N S => ?_) k
  obtain ⟨ha, c1, hc1, H1, H2, H3⟩ := S.get hi
  have g2 : n < c1.slots.size := by rw [← Array.length_toList, H3, List.length_map]; exact hx
  obtain ⟨T', h', X', e', W', st'⟩ := RoadKit.stC X hx' hZ rfl ⟨hc1, H1, H2⟩ (slot_in h0 hn g2) (g := mkF m pc ls (.int x :: .int j :: .ref a :: st)) rfl rfl (hb hby hd)
  rw [hn] at W'
  refine ⟨T', _, X', Fr.snoc X' N ha, ?_, st'⟩
  rw [e']
  exact S.set hi W' (fun c2 hc2 H => ⟨H.1, H.2.1, by rw [slot_set H.2.2, List.map_set]⟩)
theorem W.bastore (σ' : Asn) (i n : Nat) {a : Addr} {xs : List Int32} {j : Int32} {x : Int32} (hd : decode B.2.2.1 pc = .ok (.bastore, 1)) (hi : σ[i]? = some (a, IA Z .byte xs)) (h0 : ¬ j < 0) (hn : j.toNatClampNeg = n) (hx : n < xs.length) (hσ : σ.set i (a, IA Z .byte (xs.set n (nar .byte x))) = σ') (hp : pc + 1 = pc') (k : W l Z n0 B R Q cells slots σ' pc' ls st) : W l Z n0 B R Q cells slots σ pc ls (.int x :: .int j :: .ref a :: st) := by
  subst hp hσ
  refine W.of2 (fun p e s m args below meth c T locs ⟨hx', hby, hml, hown, hnm, hZ, hrt, hlk⟩ X N S => ?_) k
  obtain ⟨ha, c1, hc1, H1, H2, H3⟩ := S.get hi
  have g2 : n < c1.slots.size := by rw [← Array.length_toList, H3, List.length_map]; exact hx
  obtain ⟨T', h', X', e', W', st'⟩ := RoadKit.stB X hx' hZ rfl ⟨hc1, H1, H2⟩ (slot_in h0 hn g2) (g := mkF m pc ls (.int x :: .int j :: .ref a :: st)) rfl rfl (hb hby hd)
  rw [hn] at W'
  refine ⟨T', _, X', Fr.snoc X' N ha, ?_, st'⟩
  rw [e']
  exact S.set hi W' (fun c2 hc2 H => ⟨H.1, H.2.1, by rw [slot_set H.2.2, List.map_set]⟩)
theorem W.zastore (σ' : Asn) (i n : Nat) {a : Addr} {xs : List Int32} {j : Int32} {x : Int32} (hd : decode B.2.2.1 pc = .ok (.bastore, 1)) (hi : σ[i]? = some (a, IA Z .boolean xs)) (h0 : ¬ j < 0) (hn : j.toNatClampNeg = n) (hx : n < xs.length) (hσ : σ.set i (a, IA Z .boolean (xs.set n (nar .boolean x))) = σ') (hp : pc + 1 = pc') (k : W l Z n0 B R Q cells slots σ' pc' ls st) : W l Z n0 B R Q cells slots σ pc ls (.int x :: .int j :: .ref a :: st) := by
  subst hp hσ
  refine W.of2 (fun p e s m args below meth c T locs ⟨hx', hby, hml, hown, hnm, hZ, hrt, hlk⟩ X N S => ?_) k
  obtain ⟨ha, c1, hc1, H1, H2, H3⟩ := S.get hi
  have g2 : n < c1.slots.size := by rw [← Array.length_toList, H3, List.length_map]; exact hx
  obtain ⟨T', h', X', e', W', st'⟩ := RoadKit.stZ X hx' hZ rfl ⟨hc1, H1, H2⟩ (slot_in h0 hn g2) (g := mkF m pc ls (.int x :: .int j :: .ref a :: st)) rfl rfl (hb hby hd)
  rw [hn] at W'
  refine ⟨T', _, X', Fr.snoc X' N ha, ?_, st'⟩
  rw [e']
  exact S.set hi W' (fun c2 hc2 H => ⟨H.1, H.2.1, by rw [slot_set H.2.2, List.map_set]⟩)
theorem W.lastore (σ' : Asn) (i n : Nat) {a : Addr} {xs : List Int64} {j : Int32} {x : Int64} (hd : decode B.2.2.1 pc = .ok (.lastore, 1)) (hi : σ[i]? = some (a, LA Z xs)) (h0 : ¬ j < 0) (hn : j.toNatClampNeg = n) (hx : n < xs.length) (hσ : σ.set i (a, LA Z (xs.set n (x))) = σ') (hp : pc + 1 = pc') (k : W l Z n0 B R Q cells slots σ' pc' ls st) : W l Z n0 B R Q cells slots σ pc ls (.long x :: .int j :: .ref a :: st) := by
  subst hp hσ
  refine W.of2 (fun p e s m args below meth c T locs ⟨hx', hby, hml, hown, hnm, hZ, hrt, hlk⟩ X N S => ?_) k
  obtain ⟨ha, c1, hc1, H1, H2, H3⟩ := S.get hi
  have g2 : n < c1.slots.size := by rw [← Array.length_toList, H3, List.length_map]; exact hx
  obtain ⟨T', h', X', e', W', st'⟩ := RoadKit.stJ X hx' hZ rfl ⟨hc1, H1, H2⟩ (slot_in h0 hn g2) (g := mkF m pc ls (.long x :: .int j :: .ref a :: st)) rfl rfl (hb hby hd)
  rw [hn] at W'
  refine ⟨T', _, X', Fr.snoc X' N ha, ?_, st'⟩
  rw [e']
  exact S.set hi W' (fun c2 hc2 H => ⟨H.1, H.2.1, by rw [slot_set H.2.2, List.map_set]⟩)
theorem W.len (i : Nat) {a : Addr} {ty : FieldType} {xs : List Int32} (v : Int32) (hd : decode B.2.2.1 pc = .ok (.arraylength, 1)) (hi : σ[i]? = some (a, IA Z ty xs)) (hv : xs.length.toInt32 = v) (hp : pc + 1 = pc') (k : W l Z n0 B R Q cells slots σ pc' ls (.int v :: st)) : W l Z n0 B R Q cells slots σ pc ls (.ref a :: st) := by
  subst hp hv
  refine W.of2 (fun p e s m args below meth c T locs ⟨hx, hby, hml, hown, hnm, hZ, hrt, hlk⟩ X N S => ?_) k
  obtain ⟨-, c1, hc1, H1, H2, H3⟩ := S.get hi
  refine ⟨T, locs, X, N, S, fun t ht => X.arraylength hx hc1 (State.isArrayOf_alike hZ.alike H1) (g := mkF m pc ls (.ref a :: st)) rfl rfl (hb hby hd) t ?_⟩
  have e : c1.slots.size = xs.length := by rw [← Array.length_toList, H3, List.length_map]
  rw [e]; exact ht
theorem W.lenJ (i : Nat) {a : Addr} {xs : List Int64} (v : Int32) (hd : decode B.2.2.1 pc = .ok (.arraylength, 1)) (hi : σ[i]? = some (a, LA Z xs)) (hv : xs.length.toInt32 = v) (hp : pc + 1 = pc') (k : W l Z n0 B R Q cells slots σ pc' ls (.int v :: st)) : W l Z n0 B R Q cells slots σ pc ls (.ref a :: st) := by
  subst hp hv
  refine W.of2 (fun p e s m args below meth c T locs ⟨hx, hby, hml, hown, hnm, hZ, hrt, hlk⟩ X N S => ?_) k
  obtain ⟨-, c1, hc1, H1, H2, H3⟩ := S.get hi
  refine ⟨T, locs, X, N, S, fun t ht => X.arraylength hx hc1 (State.isArrayOf_alike hZ.alike H1) (g := mkF m pc ls (.ref a :: st)) rfl rfl (hb hby hd) t ?_⟩
  have e : c1.slots.size = xs.length := by rw [← Array.length_toList, H3, List.length_map]
  rw [e]; exact ht
theorem W.initO {i : Nat} {a : Addr} (hd : decode B.2.2.1 pc = .ok (.invokespecial i, 3)) (w1 : (Jvm.Cond.methodLink B.1 i Lib.objectInit).before a0 Z = true) (w2 : (Jvm.Cond.instanceMethod Lib.objectInit).before a0 Z = true) (w3 : (Jvm.Cond.code Lib.objectInit object_method_1_code 1 none).before a0 Z = true)
    (hsz : ls.size = B.2.2.2.1) (hf : 1 ≤ R.frames) (hl : (st.map fun v => v.category).sum + 12 ≤ R.locals) (hp : pc + 3 = pc') (k : W l Z n0 B R Q cells slots σ pc' ls st) : W l Z n0 B R Q cells slots σ pc ls (.ref a :: st) := by
  subst hp
  refine W.of2 (fun p e s m args below meth c T locs ⟨hx, hby, hml, hown, hnm, hZ, hrt, hlk⟩ X N S => ?_) k
  obtain ⟨T', X', e', st'⟩ := RoadKit.initO X hx hZ hown w1 w2 w3 rfl (g := mkF m pc ls (.ref a :: st)) rfl (by rw [hml]; exact hsz) rfl (hb hby hd) hf (W := (st.map fun v => v.category).sum) (by show 2 * 0 + _ ≤ _; omega) hl
  exact ⟨T', locs, X', N, by rw [e']; exact S, st'⟩
theorem W.callI {y : MethodName} {bytes : ByteArray} {maxL : Nat} {rm : Room} {a : Addr} {as : List Value} {Qc : Option Value → Asn → Prop} {i : Nat} {sg : MethodDescriptor} (hS : Sp l Z n0 y bytes maxL none rm (.ref a :: as) σ Qc)
    (hd : decode B.2.2.1 pc = .ok (.invokespecial i, 3)) (hy1 : y.name = "<init>") (w1 : (Jvm.Cond.methodLink B.1 i y).before a0 Z = true) (w2 : (Jvm.Cond.instanceMethod y).before a0 Z = true) (wz : (Jvm.Cond.initialized y.cls).before a0 Z = true) (wc : (Jvm.Cond.code y bytes maxL none).before a0 Z = true)
    (hy : y.cls ≠ "java/lang/invoke/MethodHandle" ∧ y.cls ≠ "java/lang/invoke/VarHandle") (hsg : parseMethodDescriptor y.desc = some sg) (hln : as.length = sg.parameters.length) (hst : st = as.reverse ++ .ref a :: rest)
    (hf : rm.frames + 1 ≤ R.frames) (hl : (rest.map fun v => v.category).sum + (maxL + 11) + rm.locals ≤ R.locals) (hc : cells + rm.cells ≤ R.cells) (hs : slots + rm.slots ≤ R.slots) (hsz : ls.size = B.2.2.2.1) (hp : pc + 3 = pc')
    (k : ∀ v σ', Qc v σ' → W l Z n0 B R Q (cells + rm.cells) (slots + rm.slots) σ' pc' ls (v.toList ++ rest)) : W l Z n0 B R Q cells slots σ pc ls st := by
  subst hp
  intro p e s m args below meth c T locs C X N S
  obtain ⟨hx, hby, hml, hown, hnm, hZ, hrt, hlk⟩ := C
  obtain ⟨v, _, ⟨T8, L8, k8, n8⟩, -, X8, ⟨Lc8, ⟨⟨σ', hQ8, hS8⟩, hF8⟩, l8, y8, z8⟩, st8⟩ := X.specialBack hx (y := y) hy1 hown (mvT hZ w1) (mvT hZ w2) (mvT hZ wc) hy (W.back (a0 := a0) hS S hZ wc wz hf hl) (g := (mkF m pc ls st)) rfl (by rw [hml]; exact hsz) (Steps.refl _) (a := a) (argsL := as) (rest := rest) (lenOf hsg hln) hst (by show 2 * 0 + _ ≤ _; omega) (hb hby hd) (fun _ _ => ⟨rfl, rfl, hc, hs⟩)
  dsimp only [Pt.U, Pt.locs, Pt.cells, Pt.slots] at X8 l8 y8 z8 st8 hS8
  subst l8 y8 z8
  obtain ⟨u, o, h1, h2⟩ := k v σ' hQ8 p e s m args below meth c T8 _ ⟨hx, hby, hml, hown, hnm, hZ, hrt, hlk⟩ X8 (N.app hF8) hS8
  exact ⟨u, o, st8.trans h1, h2⟩
theorem W.callV (j : Nat) {y : MethodName} {bytes : ByteArray} {maxL : Nat} {ret : Option FieldType} {rm : Room} {a : Addr} {C : String} {fs : List (String × String × String × Value)} {as : List Value} {Qc : Option Value → Asn → Prop} {i : Nat} {sg : MethodDescriptor} (hj : σ[j]? = some (a, ObjP Z C fs)) (hS : Sp l Z n0 y bytes maxL ret rm (.ref a :: as) σ Qc)
    (hd : decode B.2.2.1 pc = .ok (.invokevirtual i, 3)) (w1 : (Jvm.Cond.methodLink B.1 i y).before a0 Z = true) (wd : (Jvm.Cond.declares y).before a0 Z = true) (wsl : (Jvm.Cond.selects C y y).before a0 Z = true) (w2 : (Jvm.Cond.instanceMethod y).before a0 Z = true) (wz : (Jvm.Cond.initialized y.cls).before a0 Z = true) (wc : (Jvm.Cond.code y bytes maxL ret).before a0 Z = true) (hyc : C = y.cls)
    (hy : y.cls ≠ "java/lang/invoke/MethodHandle" ∧ y.cls ≠ "java/lang/invoke/VarHandle") (hsg : parseMethodDescriptor y.desc = some sg) (hln : as.length = sg.parameters.length) (hst : st = as.reverse ++ .ref a :: rest)
    (hf : rm.frames + 1 ≤ R.frames) (hl : (rest.map fun v => v.category).sum + (maxL + 11) + rm.locals ≤ R.locals) (hc : cells + rm.cells ≤ R.cells) (hs : slots + rm.slots ≤ R.slots) (hsz : ls.size = B.2.2.2.1) (hp : pc + 3 = pc')
    (k : ∀ v σ', Qc v σ' → W l Z n0 B R Q (cells + rm.cells) (slots + rm.slots) σ' pc' ls (v.toList ++ rest)) : W l Z n0 B R Q cells slots σ pc ls st := by
  subst hp hyc
  intro p e s m args below meth c T locs Cc X N S
  obtain ⟨hx, hby, hml, hown, hnm, hZ, hrt, hlk⟩ := Cc
  obtain ⟨-, c1, hc1, H⟩ := S.get hj
  obtain ⟨cq, kq, qa, qb, qc⟩ := isOf hZ rfl (exa_out H.1 hc1)
  obtain ⟨v, _, ⟨T8, L8, k8, n8⟩, -, X8, ⟨Lc8, ⟨⟨σ', hQ8, hS8⟩, hF8⟩, l8, y8, z8⟩, st8⟩ := X.virtualBack hx (y := y) (z := y) hown (mvT hZ w1) (mvT hZ wd) (notFace_of_selects (args := #[]) (mvT hZ wsl)) (mvT hZ wsl) (mvT hZ w2) hy (W.back (a0 := a0) hS S hZ wc wz hf hl) qa qc (g := (mkF m pc ls st)) rfl (by rw [hml]; exact hsz) (Steps.refl _) (argsL := as) (rest := rest) (lenOf hsg hln) hst (by show 2 * 0 + _ ≤ _; omega) (hb hby hd) (fun _ _ => ⟨rfl, rfl, hc, hs⟩)
  dsimp only [Pt.U, Pt.locs, Pt.cells, Pt.slots] at X8 l8 y8 z8 st8 hS8
  subst l8 y8 z8
  obtain ⟨u, o, h1, h2⟩ := k v σ' hQ8 p e s m args below meth c T8 _ ⟨hx, hby, hml, hown, hnm, hZ, hrt, hlk⟩ X8 (N.app hF8) hS8
  exact ⟨u, o, st8.trans h1, h2⟩
end Rules2
section Rules3
variable {l : Launch} {Z : State} {n0 : Nat} {B : Bdy} {R : Room} {Q : Option Value → Asn → Prop} {cells slots : Nat} {σ : Asn} {pc pc' : Nat} {ls ls' : Array Slot} {st st' rest : List Value} {a0 : Array Value}
theorem nar_ref {t : FieldType} {v : Value} (hv : v.isRef = true) : narrow t v = v := by rcases ref_cases hv with rfl | ⟨a, rfl⟩ <;> cases t <;> rfl
theorem fit_ref {n : String} {v : Value} (hv : v.isRef = true) : fits (.object n) v = true := by rcases ref_cases hv with rfl | ⟨a, rfl⟩ <;> rfl
theorem fit_refA {t : FieldType} {v : Value} (hv : v.isRef = true) : fits (.array t) v = true := by rcases ref_cases hv with rfl | ⟨a, rfl⟩ <;> rfl
theorem W.drop (τ : Asn) (i : Nat) (hτ : σ.eraseIdx i = τ) (k : W l Z n0 B R Q cells slots τ pc ls st) : W l Z n0 B R Q cells slots σ pc ls st := by
  subst hτ; exact W.conv (fun _ S => S.sub (List.eraseIdx_sublist σ i)) k
theorem Sep.imp {h : Heap} {i : Nat} {a : Addr} {P P' : Cell → Prop} (S : Sep Z n0 h σ) (hi : σ[i]? = some (a, P)) (hP : ∀ c, P c → P' c) : Sep Z n0 h (σ.set i (a, P')) := by
  refine ⟨S.1, ?_, ?_⟩
  · intro x hx
    obtain ⟨j, hj⟩ := List.mem_iff_getElem?.mp hx
    by_cases hij : i = j
    · subst hij
      rw [List.getElem?_set_self (List.getElem?_eq_some_iff.mp hi).1] at hj
      cases hj
      obtain ⟨q1, c, q2, q3⟩ := S.get hi
      exact ⟨q1, c, q2, hP c q3⟩
    · rw [List.getElem?_set_ne hij] at hj
      exact S.2.1 x (List.mem_of_getElem? hj)
  · have e : (σ.set i (a, P')).map (fun x => x.1) = σ.map (fun x => x.1) := by
      apply List.ext_getElem?
      intro j
      simp only [List.getElem?_map]
      by_cases hij : i = j
      · subst hij
        rw [List.getElem?_set_self (List.getElem?_eq_some_iff.mp hi).1, hi]; rfl
      · rw [List.getElem?_set_ne hij]
    rw [e]; exact S.2.2
theorem ObjP.sub {C : String} {fs fs' : List (String × String × String × Value)} {c : Cell} (H : ObjP Z C fs c) (hs : fs'.Sublist fs) : ObjP Z C fs' c := ⟨H.1, fun f hf => H.2.1 f (hs.subset hf), H.2.2.sublist hs⟩
theorem W.fewer (σ' : Asn) (i : Nat) {a : Addr} {C : String} {fs fs' : List (String × String × String × Value)} (hi : σ[i]? = some (a, ObjP Z C fs)) (hs : fs'.Sublist fs) (hσ : σ.set i (a, ObjP Z C fs') = σ') (k : W l Z n0 B R Q cells slots σ' pc ls st) : W l Z n0 B R Q cells slots σ pc ls st := by
  subst hσ; exact W.conv (fun _ S => S.imp hi (fun c H => H.sub hs)) k
theorem flt_at {s : State} {args : Array Value} {own : String} {i : Nat} {b : UInt32} (hZ : Z.Warmed39 s.vm) (w : (Jvm.Cond.constantFloat own i b).before a0 Z = true) : (Jvm.Cond.constantFloat own i b).before args s = true :=
  constantFloat_same (s := Z.setVm s.vm) (s' := s) (args' := args) rfl ((Cond.constantFloat_setVm hZ.alike own i b).trans w)
theorem W.ldcF {i : Nat} {b : UInt32} (hd : decode B.2.2.1 pc = .ok (.ldc i, 2)) (w : (Jvm.Cond.constantFloat B.1 i b).before a0 Z = true) (hp : pc + 2 = pc') (k : W l Z n0 B R Q cells slots σ pc' ls (.float b :: st)) : W l Z n0 B R Q cells slots σ pc ls st := by
  subst hp; exact W.of (fun p e s m args below meth c T locs C X t h => X.ldcFloatC C.1 C.2.2.2.1 (flt_at C.2.2.2.2.2.1 w) (g := mkF m pc ls st) rfl (hb C.2.1 hd) t h) k
theorem W.callP (j : Nat) {y : MethodName} {bytes : ByteArray} {maxL : Nat} {ret : Option FieldType} {rm : Room} {a : Addr} {C : String} {fs : List (String × String × String × Value)} {as : List Value} {Qc : Option Value → Asn → Prop} {i kk : Nat} {sg : MethodDescriptor} (hj : σ[j]? = some (a, ObjP Z C fs)) (hS : Sp l Z n0 y bytes maxL ret rm (.ref a :: as) σ Qc)
    (hd : decode B.2.2.1 pc = .ok (.invokevirtual i, 3)) (w1 : (Jvm.Cond.methodLink B.1 i y).before a0 Z = true) (w2 : (Jvm.Cond.instanceMethod y).before a0 Z = true) (wp : (Jvm.Cond.privateMethod y).before a0 Z = true) (wi : (Jvm.Cond.instantiable y.cls kk).before a0 Z = true) (wz : (Jvm.Cond.initialized y.cls).before a0 Z = true) (wc : (Jvm.Cond.code y bytes maxL ret).before a0 Z = true)
    (hy : y.cls ≠ "java/lang/invoke/MethodHandle" ∧ y.cls ≠ "java/lang/invoke/VarHandle") (hsg : parseMethodDescriptor y.desc = some sg) (hln : as.length = sg.parameters.length) (hst : st = as.reverse ++ .ref a :: rest)
    (hf : rm.frames + 1 ≤ R.frames) (hl : (rest.map fun v => v.category).sum + (maxL + 11) + rm.locals ≤ R.locals) (hc : cells + rm.cells ≤ R.cells) (hs : slots + rm.slots ≤ R.slots) (hsz : ls.size = B.2.2.2.1) (hp : pc + 3 = pc')
    (k : ∀ v σ', Qc v σ' → W l Z n0 B R Q (cells + rm.cells) (slots + rm.slots) σ' pc' ls (v.toList ++ rest)) : W l Z n0 B R Q cells slots σ pc ls st := by
  subst hp
  intro p e s m args below meth c T locs Cc X N S
  obtain ⟨hx, hby, hml, hown, hnm, hZ, hrt, hlk⟩ := Cc
  obtain ⟨-, c1, hc1, H⟩ := S.get hj
  obtain ⟨c2, hc2, hc3⟩ := (exa_out H.1 hc1).cell
  cases hc1.symm.trans hc2
  have hpr : s.PrivateAt y := Cond.privateMethod_at (args := #[]) (mvP hZ wp)
  have hsel : (Jvm.Cond.selects y.cls y y).before args s = true := by
    obtain ⟨ci, ki, i1, i2, -, i4, -⟩ := Cond.instantiable_spec (mvT (args := args) hZ wi)
    exact selects_self_of_private i1 i2 (Bool.or_eq_false_iff.mp i4).1 hpr (mvT hZ w2) hy
  obtain ⟨v, _, ⟨T8, L8, k8, n8⟩, -, X8, ⟨Lc8, ⟨⟨σ', hQ8, hS8⟩, hF8⟩, l8, y8, z8⟩, st8⟩ := X.privateBack hx (y := y) hown (mvT hZ w1) (mvT hZ w2) hsel hpr (mvT hZ wc) hy (W.back (a0 := a0) hS S hZ wc wz hf hl) (g := (mkF m pc ls st)) rfl (by rw [hml]; exact hsz) (Steps.refl _) (a := a) hc1 hc3 (argsL := as) (rest := rest) (lenOf hsg hln) hst (by show 2 * 0 + _ ≤ _; omega) (hb hby hd) (fun _ _ => ⟨rfl, rfl, hc, hs⟩)
  dsimp only [Pt.U, Pt.locs, Pt.cells, Pt.slots] at X8 l8 y8 z8 st8 hS8
  subst l8 y8 z8
  obtain ⟨u, o, h1, h2⟩ := k v σ' hQ8 p e s m args below meth c T8 _ ⟨hx, hby, hml, hown, hnm, hZ, hrt, hlk⟩ X8 (N.app hF8) hS8
  exact ⟨u, o, st8.trans h1, h2⟩
theorem W.callF (j : Nat) {xi y : MethodName} {bytes : ByteArray} {maxL : Nat} {ret : Option FieldType} {rm : Room} {a : Addr} {C : String} {fs : List (String × String × String × Value)} {as : List Value} {Qc : Option Value → Asn → Prop} {i ct : Nat} {sg : MethodDescriptor} (hj : σ[j]? = some (a, ObjP Z C fs)) (hS : Sp l Z n0 y bytes maxL ret rm (.ref a :: as) σ Qc)
    (hd : decode B.2.2.1 pc = .ok (.invokeinterface i ct, 5)) (w1 : (Jvm.Cond.methodLink B.1 i xi).before a0 Z = true) (wd : (Jvm.Cond.declares xi).before a0 Z = true) (wf : (Jvm.Cond.interfaceMethod xi.cls xi.cls xi.name xi.desc).before a0 Z = true) (wsl : (Jvm.Cond.selects C xi y).before a0 Z = true) (w2 : (Jvm.Cond.instanceMethod y).before a0 Z = true)
    (wp : (Jvm.Cond.publicMethod y).before a0 Z = true) (wu : (Jvm.Cond.unhidden C xi.name xi.desc).before a0 Z = true) (wcs : (Jvm.Cond.castable C xi.cls).before a0 Z = true) (wz : (Jvm.Cond.initialized y.cls).before a0 Z = true) (wc : (Jvm.Cond.code y bytes maxL ret).before a0 Z = true)
    (hy : xi.cls ≠ "java/lang/invoke/MethodHandle" ∧ xi.cls ≠ "java/lang/invoke/VarHandle") (hsg : parseMethodDescriptor xi.desc = some sg) (hln : as.length = sg.parameters.length) (hst : st = as.reverse ++ .ref a :: rest)
    (hf : rm.frames + 1 ≤ R.frames) (hl : (rest.map fun v => v.category).sum + (maxL + 11) + rm.locals ≤ R.locals) (hc : cells + rm.cells ≤ R.cells) (hs : slots + rm.slots ≤ R.slots) (hsz : ls.size = B.2.2.2.1) (hp : pc + 5 = pc')
    (k : ∀ v σ', Qc v σ' → W l Z n0 B R Q (cells + rm.cells) (slots + rm.slots) σ' pc' ls (v.toList ++ rest)) : W l Z n0 B R Q cells slots σ pc ls st := by
  subst hp
  intro p e s m args below meth c T locs Cc X N S
  obtain ⟨hx, hby, hml, hown, hnm, hZ, hrt, hlk⟩ := Cc
  obtain ⟨-, c1, hc1, H⟩ := S.get hj
  obtain ⟨cq, kq, qa, qb, qc⟩ := isOf hZ rfl (exa_out H.1 hc1)
  obtain ⟨v, _, ⟨T8, L8, k8, n8⟩, -, X8, ⟨Lc8, ⟨⟨σ', hQ8, hS8⟩, hF8⟩, l8, y8, z8⟩, st8⟩ := X.interfaceBack hx (xi := xi) (y := y) hown (mvT hZ w1) (mvT hZ wd) (mvT hZ wf (by simp [Cond.onTables, Cond.keepsFace, Cond.keeps, Cond.steady, Cond.faceAtom]; exact hy)) (mvT hZ wsl) (mvT hZ w2) (mvT hZ wp) (mvT hZ wu) (mvT hZ wcs) hy (W.back (a0 := a0) hS S hZ wc wz hf hl) qa qb qc (g := (mkF m pc ls st)) rfl (by rw [hml]; exact hsz) (Steps.refl _) (argsL := as) (rest := rest) (lenOf hsg hln) hst (by show 2 * 0 + _ ≤ _; omega) (hb hby hd) (fun _ _ => ⟨rfl, rfl, hc, hs⟩)
  dsimp only [Pt.U, Pt.locs, Pt.cells, Pt.slots] at X8 l8 y8 z8 st8 hS8
  subst l8 y8 z8
  obtain ⟨u, o, h1, h2⟩ := k v σ' hQ8 p e s m args below meth c T8 _ ⟨hx, hby, hml, hown, hnm, hZ, hrt, hlk⟩ X8 (N.app hF8) hS8
  exact ⟨u, o, st8.trans h1, h2⟩
end Rules3
section Rules4
variable {l : Launch} {Z : State} {n0 : Nat} {B : Bdy} {R : Room} {Q : Option Value → Asn → Prop} {cells slots : Nat} {σ : Asn} {pc pc' : Nat} {ls ls' : Array Slot} {st st' rest : List Value} {a0 : Array Value}
theorem Sep.keep1 {h h' : Heap} {j : Nat} {b : Addr} {P P' : Cell → Prop} {c' : Cell} (S : Sep Z n0 h σ) (hj : σ[j]? = some (b, P)) (K : Keep h h' [b]) (hc : h'[b]? = some c') (hP : P' c') : Sep Z n0 h' (σ.set j (b, P')) := by
  obtain ⟨hn, c, hc0, hp⟩ := S.get hj
  refine ⟨S.1.keep K (allS hn all0), ?_, ?_⟩
  · intro x hx
    obtain ⟨i, hi⟩ := List.mem_iff_getElem?.mp hx
    by_cases hij : j = i
    · subst hij
      rw [List.getElem?_set_self (List.getElem?_eq_some_iff.mp hj).1] at hi
      cases hi
      exact ⟨hn, c', hc, hP⟩
    · rw [List.getElem?_set_ne hij] at hi
      obtain ⟨xb, xP⟩ := x
      obtain ⟨hn2, c2, hc2, hp2⟩ := S.get hi
      have hne := S.ne hi hj (Ne.symm hij)
      exact ⟨hn2, c2, K.2.1 _ _ hc2 (ninS hne nin0), hp2⟩
  · have e : (σ.set j (b, P')).map (fun x => x.1) = σ.map (fun x => x.1) := by
      apply List.ext_getElem?
      intro i
      simp only [List.getElem?_map]
      by_cases hij : j = i
      · subst hij
        rw [List.getElem?_set_self (List.getElem?_eq_some_iff.mp hj).1, hj]; rfl
      · rw [List.getElem?_set_ne hij]
    rw [e]; exact S.2.2
theorem ofNat_nn {n : Nat} (h : n < 2 ^ 31) : ¬ Int32.ofNat n < 0 ∧ (Int32.ofNat n).toNatClampNeg = n := by
  have e : (Int32.ofNat n).toInt = n := Int32.toInt_ofNat_of_lt h
  refine ⟨fun q => ?_, ?_⟩
  · have h0 : (0 : Int32).toInt = 0 := by decide
    rw [Int32.lt_iff_toInt_lt, e, h0] at q; omega
  · simp only [Int32.toNatClampNeg, e]; omega
theorem ia_arv {h : Heap} {a : Addr} {c : Cell} {xs : List Int32} (hc : h[a]? = some c) (H : IA Z .int xs c) (hl : xs.length < 2 ^ 31) : Arv Z h a c.cls .int (Int32.ofNat xs.length) (xs.map Value.int) (.int 0) := by
  obtain ⟨H1, H2, H3⟩ := H
  have hs : c.slots.size = xs.length := by rw [← Array.length_toList, H3, List.length_map]
  have hg : ∀ k, k < c.slots.size → ∃ x, (xs.map Value.int).getD k (.int 0) = .int x ∧ c.slots[k]? = some (.int x) := by
    intro k hk
    have hk' : k < xs.length := by omega
    refine ⟨xs[k], by simp [List.getD_eq_getElem?_getD, hk'], ?_⟩
    exact (slot_get H3 (by rw [List.getElem?_map, List.getElem?_eq_getElem hk']; rfl)).1
  refine ⟨c, ⟨hc, H1, H2⟩, rfl, by rw [(ofNat_nn hl).2, hs], (ofNat_nn hl).1, fun k hk => ?_, fun k hk => ?_⟩
  · obtain ⟨x, e1, e2⟩ := hg k hk; rw [e1, e2]
  · obtain ⟨x, e1, -⟩ := hg k hk; rw [e1]; rfl
theorem W.copy1 (σ' : Asn) (i j d : Nat) {idx : Nat} {a b : Addr} {xs ys : List Int32} {x dp : Int32} (hd : decode B.2.2.1 pc = .ok (.invokestatic idx, 3)) (w1 : (Jvm.Cond.methodLink B.1 idx Jvm.Stand.acN).before a0 Z = true) (w2 : (Jvm.Cond.native Jvm.Stand.acN).before a0 Z = true) (w3 : (Jvm.Cond.static Jvm.Stand.acN).before a0 Z = true) (w4 : (Jvm.Cond.initialized "java/lang/System").before a0 Z = true)
    (hi : σ[i]? = some (a, IA Z .int xs)) (hj : σ[j]? = some (b, IA Z .int ys)) (hx : xs[0]? = some x) (h0 : ¬ dp < 0) (hdn : dp.toNatClampNeg = d) (hl : d < ys.length) (hxl : xs.length < 2 ^ 31) (hyl : ys.length < 2 ^ 31) (hσ : σ.set j (b, IA Z .int (ys.set d x)) = σ')
    (hsz : ls.size = B.2.2.2.1) (hf : 1 ≤ R.frames) (hlo : (st.map fun v => v.category).sum + 18 ≤ R.locals) (hp : pc + 3 = pc') (k : W l Z n0 B R Q cells slots σ' pc' ls st) : W l Z n0 B R Q cells slots σ pc ls (.int 1 :: .int dp :: .ref b :: .int 0 :: .ref a :: st) := by
  subst hp hσ
  refine W.of2 (fun p e s m args below meth c T locs ⟨hx', hby, hml, hown, hnm, hZ, hrt, hlk⟩ X N S => ?_) k
  obtain ⟨-, c1, hc1, H1⟩ := S.get hi
  obtain ⟨hb2, c2, hc2, H2⟩ := S.get hj
  have hx0 : 0 < xs.length := (List.getElem?_eq_some_iff.mp hx).1
  obtain ⟨T', h', L, X', e', N', K', V', st'⟩ := RoadKit.cpA X hx' hZ hown w1 w2 w3 w4 rfl (ia_arv hc1 H1 hxl) (ia_arv hc2 H2 hyl) (us := [.int x]) (Or.inl ⟨rfl, rfl⟩) (sp := 0) (dp := dp) (nn := 1) (by decide) h0 (by decide) (by rw [(ofNat_nn hxl).2]; show 0 + 1 ≤ _; omega) (by rw [(ofNat_nn hyl).2, hdn]; show d + 1 ≤ _; omega)
    (by show _ = [(xs.map Value.int).getD (0 + 0) (.int 0)]; rw [List.getD_eq_getElem?_getD, List.getElem?_map, hx]; rfl) (by rw [List.length_map, hdn]; show d + 1 ≤ _; omega) N hb2 (g := mkF m pc ls (.int 1 :: .int dp :: .ref b :: .int 0 :: .ref a :: st)) rfl (by rw [hml]; exact hsz) rfl (hb hby hd) hf (W := (st.map fun v => v.category).sum) (by show 2 * 0 + _ ≤ _; omega) hlo
  refine ⟨T', L, X', N', ?_, st'⟩
  obtain ⟨c3, A3, -, S3, -, H3, -⟩ := V'
  rw [e']
  refine S.keep1 hj K' A3.1 ⟨A3.2.1, A3.2.2, ?_⟩
  have hs3 : c3.slots.size = ys.length := by rw [S3, (ofNat_nn hyl).2]
  apply List.ext_getElem?
  intro q
  rw [Array.getElem?_toList]
  have e5 : (ys.map Value.int).take dp.toNatClampNeg ++ [Value.int x] ++ (ys.map Value.int).drop (dp.toNatClampNeg + (1 : Int32).toNatClampNeg) = (ys.set d x).map Value.int := by
    rw [List.map_set, List.set_eq_take_append_cons_drop, if_pos (by rw [List.length_map]; exact hl), hdn, List.append_assoc]; rfl
  rw [e5] at H3
  by_cases hq : q < c3.slots.size
  · rw [H3 q hq, List.getD_eq_getElem?_getD]
    have : q < ((ys.set d x).map Value.int).length := by rw [List.length_map, List.length_set]; omega
    rw [List.getElem?_eq_getElem this]; rfl
  · rw [Array.getElem?_eq_none (by omega), List.getElem?_eq_none (by rw [List.length_map, List.length_set]; omega)]
end Rules4
theorem wd {L : List Jvm.Cond} {a0 : Array Value} {Z : State} (hw : ∀ d ∈ L, d.before a0 Z = true) (i : Nat) {d : Jvm.Cond} (h : L[i]? = some d) : d.before a0 Z = true := hw d (List.mem_of_getElem? h)
/-- it returns just this, and the heap is known as this -/
abbrev Ret (v : Option Value) (τ : Asn) : Option Value → Asn → Prop := fun v' σ' => v' = v ∧ σ' = τ
/-! the plain law: a binary heap of pairs (level, tuple) in a list of 16 places -/
abbrev Ent := Int64 × Int64
def own_ky (E : List Ent) (i : Nat) : Ent := (E[i]?).getD (0, 0)
theorem own_ky_set {E : List Ent} {p i : Nat} {x : Ent} (hp : p < E.length) : own_ky (E.set p x) i = if p = i then x else own_ky E i := by
  unfold own_ky
  rw [List.getElem?_set]
  by_cases h : p = i
  · subst h; simp [hp]
  · rw [if_neg h, if_neg h]
theorem own_ky_some {E : List Ent} {i : Nat} (h : i < E.length) : E[i]? = some (own_ky E i) := by unfold own_ky; rw [List.getElem?_eq_getElem h]; rfl
theorem own_ky_get {E : List Ent} {i : Nat} (h : i < E.length) : E[i] = own_ky E i := by
  have := own_ky_some h; rw [List.getElem?_eq_getElem h] at this; exact Option.some.inj this
def own_hp (E : List Ent) (n : Nat) : Prop := ∀ i, 0 < i → i < n → (own_ky E ((i - 1) / 2)).1 ≤ (own_ky E i).1
theorem own_hp_min {E : List Ent} {n : Nat} (H : own_hp E n) : ∀ i, i < n → (own_ky E 0).1 ≤ (own_ky E i).1 := by
  intro i
  induction i using Nat.strongRecOn with
  | _ i ih =>
    intro hi
    by_cases h0 : i = 0
    · subst h0; exact Int64.le_refl _
    · exact Int64.le_trans (ih ((i - 1) / 2) (by omega) (by omega)) (H i (by omega) hi)
theorem own_swap {E : List Ent} {n p q : Nat} {x : Ent} (hn : n ≤ E.length) (hp : p < n) (hq : q < n) (hpq : p ≠ q) : (((E.set p (own_ky E q)).set q x).take n).Perm ((E.set p x).take n) := by
  have hL : ((E.set p x).take n).length = n := by rw [List.length_take, List.length_set]; omega
  have e := List.set_set_perm (as := (E.set p x).take n) (i := p) (j := q) (by omega) (by omega)
  have g1 : ((E.set p x).take n)[q]'(by omega) = own_ky E q := by
    rw [List.getElem_take, List.getElem_set_ne hpq, own_ky_get]
  have g2 : ((E.set p x).take n)[p]'(by omega) = x := by
    rw [List.getElem_take, List.getElem_set_self]
  rw [g1, g2] at e
  have e2 : (((E.set p x).take n).set p (own_ky E q)).set q x = ((E.set p (own_ky E q)).set q x).take n := by
    rw [← List.take_set, ← List.take_set, List.set_set]
  rw [e2] at e
  exact e
def own_up (E : List Ent) (n p : Nat) (x : Ent) : Prop :=
  (∀ i, 0 < i → i < n → i ≠ p → (own_ky (E.set p x) ((i - 1) / 2)).1 ≤ (own_ky (E.set p x) i).1) ∧
  (∀ i, 0 < i → i < n → (i - 1) / 2 = p → 0 < p → (own_ky E ((p - 1) / 2)).1 ≤ (own_ky E i).1)
theorem own_up_start {E : List Ent} {k : Nat} {x : Ent} (hk : k < E.length) (H : own_hp E k) : own_up E (k + 1) k x := by
  refine ⟨fun i h0 hi hne => ?_, fun i h0 hi hp _ => by omega⟩
  rw [own_ky_set hk, own_ky_set hk, if_neg (by omega), if_neg (by omega)]
  exact H i h0 (by omega)
theorem own_up_step {E : List Ent} {n p : Nat} {x : Ent} (hn : n ≤ E.length) (hp : p < n) (h0 : 0 < p) (hx : x.1 < (own_ky E ((p - 1) / 2)).1) (H : own_up E n p x) : own_up (E.set p (own_ky E ((p - 1) / 2))) n ((p - 1) / 2) x := by
  obtain ⟨H1, H2⟩ := H
  have hpl : p < E.length := by omega
  have hql : (p - 1) / 2 < (E.set p (own_ky E ((p - 1) / 2))).length := by rw [List.length_set]; omega
  have hxl := Int64.le_of_lt hx
  refine ⟨fun i hi0 hi hne => ?_, fun i hi0 hi hpar hq0 => ?_⟩
  · rw [own_ky_set hql, own_ky_set hql, own_ky_set hpl, own_ky_set hpl]
    by_cases c1 : i = p
    · subst c1
      rw [if_pos rfl, if_neg (by omega), if_pos rfl]; exact hxl
    · by_cases c2 : (i - 1) / 2 = (p - 1) / 2
      · rw [if_pos c2.symm, if_neg (by omega), if_neg (by omega)]
        have := H1 i hi0 hi c1
        rw [own_ky_set hpl, own_ky_set hpl, if_neg (by omega), if_neg (by omega), c2] at this
        exact Int64.le_trans hxl this
      · by_cases c3 : (i - 1) / 2 = p
        · rw [if_neg (by omega), if_pos c3.symm, if_neg (by omega), if_neg (by omega)]
          exact H2 i hi0 hi c3 h0
        · rw [if_neg (by omega), if_neg (by omega), if_neg (by omega), if_neg (by omega)]
          have := H1 i hi0 hi c1
          rw [own_ky_set hpl, own_ky_set hpl, if_neg (by omega), if_neg (by omega)] at this
          exact this
  · rw [own_ky_set hpl, own_ky_set hpl, if_neg (by omega)]
    have hq := H1 ((p - 1) / 2) hq0 (by omega) (by omega)
    rw [own_ky_set hpl, own_ky_set hpl, if_neg (by omega), if_neg (by omega)] at hq
    by_cases c1 : p = i
    · rw [if_pos c1]; exact hq
    · rw [if_neg c1]
      have := H1 i hi0 hi (fun z => c1 z.symm)
      rw [own_ky_set hpl, own_ky_set hpl, if_neg (by omega), if_neg (by omega), hpar] at this
      exact Int64.le_trans hq this
theorem own_up_end {E : List Ent} {n p : Nat} {x : Ent} (hn : n ≤ E.length) (hp : p < n) (hx : 0 < p → (own_ky E ((p - 1) / 2)).1 ≤ x.1) (H : own_up E n p x) : own_hp (E.set p x) n := by
  intro i h0 hi
  by_cases c1 : i = p
  · subst c1
    rw [own_ky_set (by omega), own_ky_set (by omega), if_neg (by omega), if_pos rfl]; exact hx h0
  · exact H.1 i h0 hi c1
theorem own_take_set_last {E : List Ent} {k : Nat} {x : Ent} (hk : k < E.length) : ((E.set k x).take (k + 1)).Perm (x :: E.take k) := by
  have e : (E.set k x).take (k + 1) = E.take k ++ [x] := by
    apply List.ext_getElem?
    intro i
    rw [List.getElem?_take, List.getElem?_set]
    by_cases c : i < k
    · rw [if_pos (by omega), if_neg (by omega), List.getElem?_append_left (by rw [List.length_take]; omega), List.getElem?_take, if_pos c]
    · by_cases c2 : i = k
      · subst c2
        rw [if_pos (by omega), if_pos rfl, if_pos hk, List.getElem?_append_right (by rw [List.length_take]; omega)]
        have : i - (E.take i).length = 0 := by rw [List.length_take]; omega
        rw [this]; rfl
      · rw [if_neg (by omega), List.getElem?_eq_none]
        rw [List.length_append, List.length_take, List.length_singleton]; omega
  rw [e]
  exact (List.perm_append_singleton x (E.take k))
def own_dn (E : List Ent) (m p : Nat) (x : Ent) : Prop :=
  (∀ i, 0 < i → i < m → (i - 1) / 2 ≠ p → (own_ky (E.set p x) ((i - 1) / 2)).1 ≤ (own_ky (E.set p x) i).1) ∧
  (∀ i, 0 < i → i < m → (i - 1) / 2 = p → 0 < p → (own_ky E ((p - 1) / 2)).1 ≤ (own_ky E i).1)
theorem own_dn_start {E : List Ent} {m : Nat} {x : Ent} (hm : m < E.length) (H : own_hp E (m + 1)) : own_dn E m 0 x := by
  refine ⟨fun i h0 hi hne => ?_, fun i h0 hi _ h => absurd h (by omega)⟩
  rw [own_ky_set (by omega), own_ky_set (by omega), if_neg (by omega), if_neg (by omega)]
  exact H i h0 (by omega)
theorem own_dn_step {E : List Ent} {m p c : Nat} {x : Ent} (hm : m ≤ E.length) (hp : p < m) (hc : c < m) (hcp : (c - 1) / 2 = p) (hc0 : 0 < c) (hx : (own_ky E c).1 < x.1) (hmin : ∀ i, 0 < i → i < m → (i - 1) / 2 = p → (own_ky E c).1 ≤ (own_ky E i).1) (H : own_dn E m p x) : own_dn (E.set p (own_ky E c)) m c x := by
  obtain ⟨H1, H2⟩ := H
  have hpl : p < E.length := by omega
  have hcl : c < (E.set p (own_ky E c)).length := by rw [List.length_set]; omega
  have hxl := Int64.le_of_lt hx
  refine ⟨fun i hi0 hi hne => ?_, fun i hi0 hi hpar _ => ?_⟩
  · rw [own_ky_set hcl, own_ky_set hcl, own_ky_set hpl, own_ky_set hpl, if_neg (fun z => hne z.symm)]
    by_cases c1 : (i - 1) / 2 = p
    · rw [if_pos c1.symm]
      by_cases c2 : c = i
      · rw [if_pos c2]; exact hxl
      · rw [if_neg c2, if_neg (by omega)]; exact hmin i hi0 hi c1
    · rw [if_neg (by omega), if_neg (by omega)]
      by_cases c2 : p = i
      · subst c2
        rw [if_pos rfl]
        exact H2 c hc0 hc hcp hi0
      · rw [if_neg c2]
        have := H1 i hi0 hi c1
        rw [own_ky_set hpl, own_ky_set hpl, if_neg (by omega), if_neg (by omega)] at this
        exact this
  · rw [own_ky_set hpl, own_ky_set hpl, if_pos hcp.symm, if_neg (by omega)]
    have := H1 i hi0 hi (by omega)
    rw [own_ky_set hpl, own_ky_set hpl, if_neg (by omega), if_neg (by omega), hpar] at this
    exact this
theorem own_dn_end {E : List Ent} {m p : Nat} {x : Ent} (hm : m ≤ E.length) (hp : p < E.length) (hx : ∀ i, 0 < i → i < m → (i - 1) / 2 = p → x.1 ≤ (own_ky E i).1) (H : own_dn E m p x) : own_hp (E.set p x) m := by
  intro i h0 hi
  by_cases c1 : (i - 1) / 2 = p
  · rw [own_ky_set hp, own_ky_set hp, if_pos c1.symm, if_neg (by omega)]; exact hx i h0 hi c1
  · exact H.1 i h0 hi c1
theorem own_take_last {E : List Ent} {m : Nat} (hm : m < E.length) : (E.take (m + 1)).Perm (own_ky E 0 :: (E.set 0 (own_ky E m)).take m) := by
  cases E with
  | nil => simp at hm
  | cons h t =>
    cases m with
    | zero => simp [own_ky]
    | succ m =>
      have hm' : m < t.length := by simpa using hm
      have e1 : own_ky (h :: t) (m + 1) = t[m] := by
        have := own_ky_get (E := h :: t) (i := m + 1) hm
        rw [← this]; rfl
      have e2 : own_ky (h :: t) 0 = h := rfl
      rw [e1, e2, List.set_cons_zero, List.take_succ_cons, List.take_succ_cons, List.take_succ_eq_append_getElem hm']
      exact (List.perm_append_singleton _ _).cons h

abbrev ShLQ (Z : State) (v0 : Value) (v1 : Value) (v2 : Value) : Cell → Prop := ObjP Z "com/example/mendb/mendb/LevelQueue" [("com/example/mendb/mendb/LevelQueue", "levels", "[J", v0), ("com/example/mendb/mendb/LevelQueue", "tuples", "[J", v1), ("com/example/mendb/mendb/LevelQueue", "size", "I", v2)]
theorem own_ne16 {k : Nat} (h : k < 16) : ¬ Int32.ofNat k = 16 := (by decide : ∀ k : Fin 16, ¬ Int32.ofNat k = 16) ⟨k, h⟩
theorem own_succ {k : Nat} (h : k < 16) : Int32.ofNat k + 1 = Int32.ofNat (k + 1) := (by decide : ∀ k : Fin 16, Int32.ofNat k + 1 = Int32.ofNat (k.val + 1)) ⟨k, h⟩
theorem own_pred {k : Nat} (h : k < 16) : Int32.ofNat (k + 1) - 1 = Int32.ofNat k := (by decide : ∀ k : Fin 16, Int32.ofNat (k.val + 1) - 1 = Int32.ofNat k) ⟨k, h⟩
theorem own_par {k : Nat} (h : k < 16) (h0 : 0 < k) : (Int32.ofNat k - 1) / 2 = Int32.ofNat ((k - 1) / 2) := (by decide : ∀ k : Fin 16, 0 < k.val → (Int32.ofNat k - 1) / 2 = Int32.ofNat ((k.val - 1) / 2)) ⟨k, h⟩ h0
theorem own_ch {k : Nat} (h : k < 16) : 2 * Int32.ofNat k + 1 = Int32.ofNat (2 * k + 1) := (by decide : ∀ k : Fin 16, 2 * Int32.ofNat k + 1 = Int32.ofNat (2 * k.val + 1)) ⟨k, h⟩
theorem own_ch2 {k : Nat} (h : k < 16) : Int32.ofNat (2 * k + 1) + 1 = Int32.ofNat (2 * k + 2) := (by decide : ∀ k : Fin 16, Int32.ofNat (2 * k.val + 1) + 1 = Int32.ofNat (2 * k.val + 2)) ⟨k, h⟩
theorem own_pos {k : Nat} (h : k < 16) (h0 : 0 < k) : 0 < Int32.ofNat k := (by decide : ∀ k : Fin 16, 0 < k.val → 0 < Int32.ofNat k) ⟨k, h⟩ h0
theorem own_nn {k : Nat} (h : k < 16) : ¬ Int32.ofNat k < 0 := (by decide : ∀ k : Fin 16, ¬ Int32.ofNat k < 0) ⟨k, h⟩
theorem own_tn {k : Nat} (h : k < 16) : (Int32.ofNat k).toNatClampNeg = k := (by decide : ∀ k : Fin 16, (Int32.ofNat k).toNatClampNeg = k.val) ⟨k, h⟩
theorem own_lt {a b : Nat} (h1 : a < 64) (h2 : b < 64) : Int32.ofNat a < Int32.ofNat b ↔ a < b := by
  have e1 : (Int32.ofNat a).toInt = a := Int32.toInt_ofNat_of_lt (by omega)
  have e2 : (Int32.ofNat b).toInt = b := Int32.toInt_ofNat_of_lt (by omega)
  rw [Int32.lt_iff_toInt_lt, e1, e2]; omega
theorem own_l1 {E : List Ent} {i : Nat} (h : i < E.length) : (E.map Prod.fst)[i]? = some (own_ky E i).1 := by rw [List.getElem?_map, own_ky_some h]; rfl
theorem own_l2 {E : List Ent} {i : Nat} (h : i < E.length) : (E.map Prod.snd)[i]? = some (own_ky E i).2 := by rw [List.getElem?_map, own_ky_some h]; rfl
def own_s6 (s : Slot) : Prop := s = .unset ∨ ∃ w, s = .val (.int w)
abbrev own_tp2 (sto ord : Int32) : Int64 := (sto.toInt64 <<< ((32 : Int32).toInt64 &&& 63)) ||| ord.toInt64
def own_tup (k : Nat) : Int64 := own_tp2 (Int32.ofNat k) (Int32.ofNat k)
def own_K (D : Nat) : List Nat := (List.range 6).filter (fun k => !(D.testBit k))
def own_ent (lvs : List Int64) (k : Nat) : Ent := (lvs.getD k 0, own_tup k)
theorem own_K_mem {D k : Nat} (h : k ∈ own_K D) : k < 6 ∧ D.testBit k = false := by
  unfold own_K at h
  rw [List.mem_filter, List.mem_range] at h
  exact ⟨h.1, by simpa using h.2⟩
theorem own_sto {k : Nat} (h : k < 6) : (XT.ushrL (own_tup k) 32).toInt32 = Int32.ofNat k := (by decide : ∀ k : Fin 6, (XT.ushrL (own_tup k.val) 32).toInt32 = Int32.ofNat k.val) ⟨k, h⟩
theorem own_bit {D k : Nat} (hD : D < 64) (h : k ∈ own_K D) : (XT.ushrL (Int64.ofNat D) (Int32.ofNat k)) &&& 1 = 0 :=
  (by decide +kernel : ∀ (D : Fin 64) (k : Fin 6), D.val.testBit k.val = false → (XT.ushrL (Int64.ofNat D.val) (Int32.ofNat k.val)) &&& 1 = 0) ⟨D, hD⟩ ⟨k, (own_K_mem h).1⟩ (own_K_mem h).2
theorem own_or {D k : Nat} (hD : D < 64) (h : k < 6) : Int64.ofNat D ||| ((1 : Int64) <<< ((Int32.ofNat k).toInt64 &&& 63)) = Int64.ofNat (D ||| 1 <<< k) :=
  (by decide +kernel : ∀ (D : Fin 64) (k : Fin 6), Int64.ofNat D.val ||| ((1 : Int64) <<< ((Int32.ofNat k.val).toInt64 &&& 63)) = Int64.ofNat (D.val ||| 1 <<< k.val)) ⟨D, hD⟩ ⟨k, h⟩
theorem own_D {D k : Nat} (hD : D < 64) (h : k < 6) : D ||| 1 <<< k < 64 := (by decide +kernel : ∀ (D : Fin 64) (k : Fin 6), D.val ||| 1 <<< k.val < 64) ⟨D, hD⟩ ⟨k, h⟩
theorem own_er {D k : Nat} (hD : D < 64) (h : k ∈ own_K D) : (own_K D).Perm (k :: own_K (D ||| 1 <<< k)) := by
  have q := (by decide +kernel : ∀ (D : Fin 64) (k : Fin 6), D.val.testBit k.val = false → (own_K D.val).erase k.val = own_K (D.val ||| 1 <<< k.val)) ⟨D, hD⟩ ⟨k, (own_K_mem h).1⟩ (own_K_mem h).2
  rw [← q]; exact List.perm_cons_erase h
theorem own_all {D : Nat} (hD : D < 64) (h : own_K D = []) : D = 63 := (by decide +kernel : ∀ D : Fin 64, own_K D.val = [] → D.val = 63) ⟨D, hD⟩ h
/-- one 'take', in plain words -/
theorem own_first {E : List Ent} {m D : Nat} {lvs : List Int64} (hl : E.length = 16) (hm : m < 6) (hp : (E.take (m + 1)).Perm ((own_K D).map (own_ent lvs))) : ∃ k, k ∈ own_K D ∧ own_ky E 0 = own_ent lvs k := by
  have h0 : own_ky E 0 ∈ E.take (m + 1) := by
    have : (E.take (m + 1))[0]? = some (own_ky E 0) := by rw [List.getElem?_take, if_pos (by omega)]; exact own_ky_some (by omega)
    exact List.mem_of_getElem? this
  obtain ⟨k, hk, e⟩ := List.mem_map.mp (hp.mem_iff.mp h0)
  exact ⟨k, hk, e.symm⟩
theorem own_next {E E' : List Ent} {m D k : Nat} {lvs : List Int64} (hD : D < 64) (hk : k ∈ own_K D) (he : own_ky E 0 = own_ent lvs k) (hp : (E.take (m + 1)).Perm ((own_K D).map (own_ent lvs))) (hr : (E.take (m + 1)).Perm (own_ky E 0 :: E'.take m)) : (E'.take m).Perm ((own_K (D ||| 1 <<< k)).map (own_ent lvs)) := by
  have q := (own_er hD hk).map (own_ent lvs)
  rw [List.map_cons, ← he] at q
  exact ((hr.symm.trans hp).trans q).cons_inv
theorem own_least {E E' : List Ent} {m : Nat} (hl : E.length = 16) (hm : m < 6) (hE : own_hp E (m + 1)) (hr : (E.take (m + 1)).Perm (own_ky E 0 :: E'.take m)) : ∀ e ∈ E'.take m, (own_ky E 0).1 ≤ e.1 := by
  intro e he
  have h : e ∈ E.take (m + 1) := hr.mem_iff.mpr (List.mem_cons_of_mem _ he)
  obtain ⟨i, hi⟩ := List.mem_iff_getElem?.mp h
  rw [List.getElem?_take] at hi
  split at hi
  · rename_i hlt
    rw [own_ky_some (by omega)] at hi
    cases hi
    exact own_hp_min hE i hlt
  · cases hi
theorem own_done {E : List Ent} {D : Nat} {lvs : List Int64} (hD : D < 64) (hp : (E.take 0).Perm ((own_K D).map (own_ent lvs))) : Int64.ofNat D = 63 := by
  have h1 := hp.length_eq
  rw [List.take_zero, List.length_nil, List.length_map] at h1
  rw [own_all hD (List.length_eq_zero_iff.mp h1.symm)]; decide
theorem own_begin {E1 E2 E3 E4 E5 E6 : List Ent} {a b c d e f : Int64} (h1 : (E1.take 1).Perm ((a, own_tup 0) :: (List.replicate 16 ((0, 0) : Ent)).take 0)) (h2 : (E2.take 2).Perm ((b, own_tup 1) :: E1.take 1)) (h3 : (E3.take 3).Perm ((c, own_tup 2) :: E2.take 2)) (h4 : (E4.take 4).Perm ((d, own_tup 3) :: E3.take 3)) (h5 : (E5.take 5).Perm ((e, own_tup 4) :: E4.take 4)) (h6 : (E6.take 6).Perm ((f, own_tup 5) :: E5.take 5)) :
    (E6.take 6).Perm ((own_K 0).map (own_ent [a, b, c, d, e, f])) := by
  have q := h6.trans ((h5.trans ((h4.trans ((h3.trans ((h2.trans (h1.cons _)).cons _)).cons _)).cons _)).cons _)
  refine q.trans ?_
  exact (List.reverse_perm [(a, own_tup 0), (b, own_tup 1), (c, own_tup 2), (d, own_tup 3), (e, own_tup 4), (f, own_tup 5)])
theorem d1_0 : decode prog_47_method_1_code 0 = .ok (.aload_n 0, 1) := by decide +kernel
theorem d1_1 : decode prog_47_method_1_code 1 = .ok (.invokespecial 1, 3) := by decide +kernel
theorem d1_4 : decode prog_47_method_1_code 4 = .ok (.aload_n 0, 1) := by decide +kernel
theorem d1_5 : decode prog_47_method_1_code 5 = .ok (.bipush 16, 2) := by decide +kernel
theorem d1_7 : decode prog_47_method_1_code 7 = .ok (.newarray .long, 2) := by decide +kernel
theorem d1_9 : decode prog_47_method_1_code 9 = .ok (.putfield 7, 3) := by decide +kernel
theorem d1_12 : decode prog_47_method_1_code 12 = .ok (.aload_n 0, 1) := by decide +kernel
theorem d1_13 : decode prog_47_method_1_code 13 = .ok (.bipush 16, 2) := by decide +kernel
theorem d1_15 : decode prog_47_method_1_code 15 = .ok (.newarray .long, 2) := by decide +kernel
theorem d1_17 : decode prog_47_method_1_code 17 = .ok (.putfield 13, 3) := by decide +kernel
theorem d1_20 : decode prog_47_method_1_code 20 = .ok (.return_, 1) := by decide +kernel
theorem d3_0 : decode prog_47_method_4_code 0 = .ok (.aload_n 0, 1) := by decide +kernel
theorem d3_1 : decode prog_47_method_4_code 1 = .ok (.getfield 16, 3) := by decide +kernel
theorem d3_4 : decode prog_47_method_4_code 4 = .ok (.aload_n 0, 1) := by decide +kernel
theorem d3_5 : decode prog_47_method_4_code 5 = .ok (.getfield 7, 3) := by decide +kernel
theorem d3_8 : decode prog_47_method_4_code 8 = .ok (.arraylength, 1) := by decide +kernel
theorem d3_9 : decode prog_47_method_4_code 9 = .ok (.if_icmp .ne 37, 3) := by decide +kernel
theorem d3_46 : decode prog_47_method_4_code 46 = .ok (.aload_n 0, 1) := by decide +kernel
theorem d3_47 : decode prog_47_method_4_code 47 = .ok (.getfield 16, 3) := by decide +kernel
theorem d3_50 : decode prog_47_method_4_code 50 = .ok (.istore 5, 2) := by decide +kernel
theorem d3_52 : decode prog_47_method_4_code 52 = .ok (.aload_n 0, 1) := by decide +kernel
theorem d3_53 : decode prog_47_method_4_code 53 = .ok (.dup, 1) := by decide +kernel
theorem d3_54 : decode prog_47_method_4_code 54 = .ok (.getfield 16, 3) := by decide +kernel
theorem d3_57 : decode prog_47_method_4_code 57 = .ok (.iconst 1, 1) := by decide +kernel
theorem d3_58 : decode prog_47_method_4_code 58 = .ok (.iadd, 1) := by decide +kernel
theorem d3_59 : decode prog_47_method_4_code 59 = .ok (.putfield 16, 3) := by decide +kernel
theorem d3_62 : decode prog_47_method_4_code 62 = .ok (.iload 5, 2) := by decide +kernel
theorem d3_64 : decode prog_47_method_4_code 64 = .ok (.ifCond .le 62, 3) := by decide +kernel
theorem d3_67 : decode prog_47_method_4_code 67 = .ok (.aload_n 0, 1) := by decide +kernel
theorem d3_68 : decode prog_47_method_4_code 68 = .ok (.getfield 7, 3) := by decide +kernel
theorem d3_71 : decode prog_47_method_4_code 71 = .ok (.iload 5, 2) := by decide +kernel
theorem d3_73 : decode prog_47_method_4_code 73 = .ok (.iconst 1, 1) := by decide +kernel
theorem d3_74 : decode prog_47_method_4_code 74 = .ok (.isub, 1) := by decide +kernel
theorem d3_75 : decode prog_47_method_4_code 75 = .ok (.iconst 2, 1) := by decide +kernel
theorem d3_76 : decode prog_47_method_4_code 76 = .ok (.idiv, 1) := by decide +kernel
theorem d3_77 : decode prog_47_method_4_code 77 = .ok (.laload, 1) := by decide +kernel
theorem d3_78 : decode prog_47_method_4_code 78 = .ok (.lload_n 1, 1) := by decide +kernel
theorem d3_79 : decode prog_47_method_4_code 79 = .ok (.lcmp, 1) := by decide +kernel
theorem d3_80 : decode prog_47_method_4_code 80 = .ok (.ifCond .le 46, 3) := by decide +kernel
theorem d3_83 : decode prog_47_method_4_code 83 = .ok (.iload 5, 2) := by decide +kernel
theorem d3_85 : decode prog_47_method_4_code 85 = .ok (.iconst 1, 1) := by decide +kernel
theorem d3_86 : decode prog_47_method_4_code 86 = .ok (.isub, 1) := by decide +kernel
theorem d3_87 : decode prog_47_method_4_code 87 = .ok (.iconst 2, 1) := by decide +kernel
theorem d3_88 : decode prog_47_method_4_code 88 = .ok (.idiv, 1) := by decide +kernel
theorem d3_89 : decode prog_47_method_4_code 89 = .ok (.istore 6, 2) := by decide +kernel
theorem d3_91 : decode prog_47_method_4_code 91 = .ok (.aload_n 0, 1) := by decide +kernel
theorem d3_92 : decode prog_47_method_4_code 92 = .ok (.getfield 7, 3) := by decide +kernel
theorem d3_95 : decode prog_47_method_4_code 95 = .ok (.iload 5, 2) := by decide +kernel
theorem d3_97 : decode prog_47_method_4_code 97 = .ok (.aload_n 0, 1) := by decide +kernel
theorem d3_98 : decode prog_47_method_4_code 98 = .ok (.getfield 7, 3) := by decide +kernel
theorem d3_101 : decode prog_47_method_4_code 101 = .ok (.iload 6, 2) := by decide +kernel
theorem d3_103 : decode prog_47_method_4_code 103 = .ok (.laload, 1) := by decide +kernel
theorem d3_104 : decode prog_47_method_4_code 104 = .ok (.lastore, 1) := by decide +kernel
theorem d3_105 : decode prog_47_method_4_code 105 = .ok (.aload_n 0, 1) := by decide +kernel
theorem d3_106 : decode prog_47_method_4_code 106 = .ok (.getfield 13, 3) := by decide +kernel
theorem d3_109 : decode prog_47_method_4_code 109 = .ok (.iload 5, 2) := by decide +kernel
theorem d3_111 : decode prog_47_method_4_code 111 = .ok (.aload_n 0, 1) := by decide +kernel
theorem d3_112 : decode prog_47_method_4_code 112 = .ok (.getfield 13, 3) := by decide +kernel
theorem d3_115 : decode prog_47_method_4_code 115 = .ok (.iload 6, 2) := by decide +kernel
theorem d3_117 : decode prog_47_method_4_code 117 = .ok (.laload, 1) := by decide +kernel
theorem d3_118 : decode prog_47_method_4_code 118 = .ok (.lastore, 1) := by decide +kernel
theorem d3_119 : decode prog_47_method_4_code 119 = .ok (.iload 6, 2) := by decide +kernel
theorem d3_121 : decode prog_47_method_4_code 121 = .ok (.istore 5, 2) := by decide +kernel
theorem d3_123 : decode prog_47_method_4_code 123 = .ok (.goto (-61), 3) := by decide +kernel
theorem d3_126 : decode prog_47_method_4_code 126 = .ok (.aload_n 0, 1) := by decide +kernel
theorem d3_127 : decode prog_47_method_4_code 127 = .ok (.getfield 7, 3) := by decide +kernel
theorem d3_130 : decode prog_47_method_4_code 130 = .ok (.iload 5, 2) := by decide +kernel
theorem d3_132 : decode prog_47_method_4_code 132 = .ok (.lload_n 1, 1) := by decide +kernel
theorem d3_133 : decode prog_47_method_4_code 133 = .ok (.lastore, 1) := by decide +kernel
theorem d3_134 : decode prog_47_method_4_code 134 = .ok (.aload_n 0, 1) := by decide +kernel
theorem d3_135 : decode prog_47_method_4_code 135 = .ok (.getfield 13, 3) := by decide +kernel
theorem d3_138 : decode prog_47_method_4_code 138 = .ok (.iload 5, 2) := by decide +kernel
theorem d3_140 : decode prog_47_method_4_code 140 = .ok (.iload_n 3, 1) := by decide +kernel
theorem d3_141 : decode prog_47_method_4_code 141 = .ok (.i2l, 1) := by decide +kernel
theorem d3_142 : decode prog_47_method_4_code 142 = .ok (.bipush 32, 2) := by decide +kernel
theorem d3_144 : decode prog_47_method_4_code 144 = .ok (.lshl, 1) := by decide +kernel
theorem d3_145 : decode prog_47_method_4_code 145 = .ok (.iload 4, 2) := by decide +kernel
theorem d3_147 : decode prog_47_method_4_code 147 = .ok (.i2l, 1) := by decide +kernel
theorem d3_148 : decode prog_47_method_4_code 148 = .ok (.lor, 1) := by decide +kernel
theorem d3_149 : decode prog_47_method_4_code 149 = .ok (.lastore, 1) := by decide +kernel
theorem d3_150 : decode prog_47_method_4_code 150 = .ok (.return_, 1) := by decide +kernel
theorem d4_0 : decode method_2_code 0 = .ok (.aload_n 0, 1) := by decide +kernel
theorem d4_1 : decode method_2_code 1 = .ok (.invokevirtual 7, 3) := by decide +kernel
theorem d4_4 : decode method_2_code 4 = .ok (.lstore_n 3, 1) := by decide +kernel
theorem d4_5 : decode method_2_code 5 = .ok (.aload_n 0, 1) := by decide +kernel
theorem d4_6 : decode method_2_code 6 = .ok (.invokevirtual 13, 3) := by decide +kernel
theorem d4_9 : decode method_2_code 9 = .ok (.istore 5, 2) := by decide +kernel
theorem d4_11 : decode method_2_code 11 = .ok (.iload 5, 2) := by decide +kernel
theorem d4_13 : decode method_2_code 13 = .ok (.ifCond .lt 10, 3) := by decide +kernel
theorem d4_16 : decode method_2_code 16 = .ok (.iload 5, 2) := by decide +kernel
theorem d4_18 : decode method_2_code 18 = .ok (.aload_n 1, 1) := by decide +kernel
theorem d4_19 : decode method_2_code 19 = .ok (.arraylength, 1) := by decide +kernel
theorem d4_20 : decode method_2_code 20 = .ok (.if_icmp .lt 5, 3) := by decide +kernel
theorem d4_25 : decode method_2_code 25 = .ok (.lload_n 3, 1) := by decide +kernel
theorem d4_26 : decode method_2_code 26 = .ok (.aload_n 1, 1) := by decide +kernel
theorem d4_27 : decode method_2_code 27 = .ok (.iload 5, 2) := by decide +kernel
theorem d4_29 : decode method_2_code 29 = .ok (.laload, 1) := by decide +kernel
theorem d4_30 : decode method_2_code 30 = .ok (.lcmp, 1) := by decide +kernel
theorem d4_31 : decode method_2_code 31 = .ok (.ifCond .eq 5, 3) := by decide +kernel
theorem d4_36 : decode method_2_code 36 = .ok (.aload_n 2, 1) := by decide +kernel
theorem d4_37 : decode method_2_code 37 = .ok (.iconst 1, 1) := by decide +kernel
theorem d4_38 : decode method_2_code 38 = .ok (.laload, 1) := by decide +kernel
theorem d4_39 : decode method_2_code 39 = .ok (.iload 5, 2) := by decide +kernel
theorem d4_41 : decode method_2_code 41 = .ok (.lushr, 1) := by decide +kernel
theorem d4_42 : decode method_2_code 42 = .ok (.lconst 1, 1) := by decide +kernel
theorem d4_43 : decode method_2_code 43 = .ok (.land, 1) := by decide +kernel
theorem d4_44 : decode method_2_code 44 = .ok (.lconst 0, 1) := by decide +kernel
theorem d4_45 : decode method_2_code 45 = .ok (.lcmp, 1) := by decide +kernel
theorem d4_46 : decode method_2_code 46 = .ok (.ifCond .eq 5, 3) := by decide +kernel
theorem d4_51 : decode method_2_code 51 = .ok (.aload_n 2, 1) := by decide +kernel
theorem d4_52 : decode method_2_code 52 = .ok (.iconst 2, 1) := by decide +kernel
theorem d4_53 : decode method_2_code 53 = .ok (.laload, 1) := by decide +kernel
theorem d4_54 : decode method_2_code 54 = .ok (.lconst 0, 1) := by decide +kernel
theorem d4_55 : decode method_2_code 55 = .ok (.lcmp, 1) := by decide +kernel
theorem d4_56 : decode method_2_code 56 = .ok (.ifCond .eq 13, 3) := by decide +kernel
theorem d4_59 : decode method_2_code 59 = .ok (.lload_n 3, 1) := by decide +kernel
theorem d4_60 : decode method_2_code 60 = .ok (.aload_n 2, 1) := by decide +kernel
theorem d4_61 : decode method_2_code 61 = .ok (.iconst 0, 1) := by decide +kernel
theorem d4_62 : decode method_2_code 62 = .ok (.laload, 1) := by decide +kernel
theorem d4_63 : decode method_2_code 63 = .ok (.lcmp, 1) := by decide +kernel
theorem d4_64 : decode method_2_code 64 = .ok (.ifCond .ge 5, 3) := by decide +kernel
theorem d4_69 : decode method_2_code 69 = .ok (.aload_n 2, 1) := by decide +kernel
theorem d4_70 : decode method_2_code 70 = .ok (.iconst 0, 1) := by decide +kernel
theorem d4_71 : decode method_2_code 71 = .ok (.lload_n 3, 1) := by decide +kernel
theorem d4_72 : decode method_2_code 72 = .ok (.lastore, 1) := by decide +kernel
theorem d4_73 : decode method_2_code 73 = .ok (.aload_n 2, 1) := by decide +kernel
theorem d4_74 : decode method_2_code 74 = .ok (.iconst 1, 1) := by decide +kernel
theorem d4_75 : decode method_2_code 75 = .ok (.aload_n 2, 1) := by decide +kernel
theorem d4_76 : decode method_2_code 76 = .ok (.iconst 1, 1) := by decide +kernel
theorem d4_77 : decode method_2_code 77 = .ok (.laload, 1) := by decide +kernel
theorem d4_78 : decode method_2_code 78 = .ok (.lconst 1, 1) := by decide +kernel
theorem d4_79 : decode method_2_code 79 = .ok (.iload 5, 2) := by decide +kernel
theorem d4_81 : decode method_2_code 81 = .ok (.lshl, 1) := by decide +kernel
theorem d4_82 : decode method_2_code 82 = .ok (.lor, 1) := by decide +kernel
theorem d4_83 : decode method_2_code 83 = .ok (.lastore, 1) := by decide +kernel
theorem d4_84 : decode method_2_code 84 = .ok (.aload_n 2, 1) := by decide +kernel
theorem d4_85 : decode method_2_code 85 = .ok (.iconst 2, 1) := by decide +kernel
theorem d4_86 : decode method_2_code 86 = .ok (.lconst 1, 1) := by decide +kernel
theorem d4_87 : decode method_2_code 87 = .ok (.lastore, 1) := by decide +kernel
theorem d4_88 : decode method_2_code 88 = .ok (.aload_n 0, 1) := by decide +kernel
theorem d4_89 : decode method_2_code 89 = .ok (.invokevirtual 17, 3) := by decide +kernel
theorem d4_92 : decode method_2_code 92 = .ok (.iconst 1, 1) := by decide +kernel
theorem d4_93 : decode method_2_code 93 = .ok (.ireturn, 1) := by decide +kernel
theorem d5_0 : decode prog_47_method_5_code 0 = .ok (.aload_n 0, 1) := by decide +kernel
theorem d5_1 : decode prog_47_method_5_code 1 = .ok (.getfield 7, 3) := by decide +kernel
theorem d5_4 : decode prog_47_method_5_code 4 = .ok (.iconst 0, 1) := by decide +kernel
theorem d5_5 : decode prog_47_method_5_code 5 = .ok (.laload, 1) := by decide +kernel
theorem d5_6 : decode prog_47_method_5_code 6 = .ok (.lreturn, 1) := by decide +kernel
theorem d6_0 : decode prog_47_method_6_code 0 = .ok (.aload_n 0, 1) := by decide +kernel
theorem d6_1 : decode prog_47_method_6_code 1 = .ok (.getfield 13, 3) := by decide +kernel
theorem d6_4 : decode prog_47_method_6_code 4 = .ok (.iconst 0, 1) := by decide +kernel
theorem d6_5 : decode prog_47_method_6_code 5 = .ok (.laload, 1) := by decide +kernel
theorem d6_6 : decode prog_47_method_6_code 6 = .ok (.bipush 32, 2) := by decide +kernel
theorem d6_8 : decode prog_47_method_6_code 8 = .ok (.lushr, 1) := by decide +kernel
theorem d6_9 : decode prog_47_method_6_code 9 = .ok (.l2i, 1) := by decide +kernel
theorem d6_10 : decode prog_47_method_6_code 10 = .ok (.ireturn, 1) := by decide +kernel
theorem d7_0 : decode prog_47_method_8_code 0 = .ok (.aload_n 0, 1) := by decide +kernel
theorem d7_1 : decode prog_47_method_8_code 1 = .ok (.dup, 1) := by decide +kernel
theorem d7_2 : decode prog_47_method_8_code 2 = .ok (.getfield 16, 3) := by decide +kernel
theorem d7_5 : decode prog_47_method_8_code 5 = .ok (.iconst 1, 1) := by decide +kernel
theorem d7_6 : decode prog_47_method_8_code 6 = .ok (.isub, 1) := by decide +kernel
theorem d7_7 : decode prog_47_method_8_code 7 = .ok (.putfield 16, 3) := by decide +kernel
theorem d7_10 : decode prog_47_method_8_code 10 = .ok (.aload_n 0, 1) := by decide +kernel
theorem d7_11 : decode prog_47_method_8_code 11 = .ok (.getfield 7, 3) := by decide +kernel
theorem d7_14 : decode prog_47_method_8_code 14 = .ok (.aload_n 0, 1) := by decide +kernel
theorem d7_15 : decode prog_47_method_8_code 15 = .ok (.getfield 16, 3) := by decide +kernel
theorem d7_18 : decode prog_47_method_8_code 18 = .ok (.laload, 1) := by decide +kernel
theorem d7_19 : decode prog_47_method_8_code 19 = .ok (.lstore_n 1, 1) := by decide +kernel
theorem d7_20 : decode prog_47_method_8_code 20 = .ok (.aload_n 0, 1) := by decide +kernel
theorem d7_21 : decode prog_47_method_8_code 21 = .ok (.getfield 13, 3) := by decide +kernel
theorem d7_24 : decode prog_47_method_8_code 24 = .ok (.aload_n 0, 1) := by decide +kernel
theorem d7_25 : decode prog_47_method_8_code 25 = .ok (.getfield 16, 3) := by decide +kernel
theorem d7_28 : decode prog_47_method_8_code 28 = .ok (.laload, 1) := by decide +kernel
theorem d7_29 : decode prog_47_method_8_code 29 = .ok (.lstore_n 3, 1) := by decide +kernel
theorem d7_30 : decode prog_47_method_8_code 30 = .ok (.iconst 0, 1) := by decide +kernel
theorem d7_31 : decode prog_47_method_8_code 31 = .ok (.istore 5, 2) := by decide +kernel
theorem d7_33 : decode prog_47_method_8_code 33 = .ok (.iconst 2, 1) := by decide +kernel
theorem d7_34 : decode prog_47_method_8_code 34 = .ok (.iload 5, 2) := by decide +kernel
theorem d7_36 : decode prog_47_method_8_code 36 = .ok (.imul, 1) := by decide +kernel
theorem d7_37 : decode prog_47_method_8_code 37 = .ok (.iconst 1, 1) := by decide +kernel
theorem d7_38 : decode prog_47_method_8_code 38 = .ok (.iadd, 1) := by decide +kernel
theorem d7_39 : decode prog_47_method_8_code 39 = .ok (.aload_n 0, 1) := by decide +kernel
theorem d7_40 : decode prog_47_method_8_code 40 = .ok (.getfield 16, 3) := by decide +kernel
theorem d7_43 : decode prog_47_method_8_code 43 = .ok (.if_icmp .ge 95, 3) := by decide +kernel
theorem d7_46 : decode prog_47_method_8_code 46 = .ok (.iconst 2, 1) := by decide +kernel
theorem d7_47 : decode prog_47_method_8_code 47 = .ok (.iload 5, 2) := by decide +kernel
theorem d7_49 : decode prog_47_method_8_code 49 = .ok (.imul, 1) := by decide +kernel
theorem d7_50 : decode prog_47_method_8_code 50 = .ok (.iconst 1, 1) := by decide +kernel
theorem d7_51 : decode prog_47_method_8_code 51 = .ok (.iadd, 1) := by decide +kernel
theorem d7_52 : decode prog_47_method_8_code 52 = .ok (.istore 6, 2) := by decide +kernel
theorem d7_54 : decode prog_47_method_8_code 54 = .ok (.iload 6, 2) := by decide +kernel
theorem d7_56 : decode prog_47_method_8_code 56 = .ok (.iconst 1, 1) := by decide +kernel
theorem d7_57 : decode prog_47_method_8_code 57 = .ok (.iadd, 1) := by decide +kernel
theorem d7_58 : decode prog_47_method_8_code 58 = .ok (.aload_n 0, 1) := by decide +kernel
theorem d7_59 : decode prog_47_method_8_code 59 = .ok (.getfield 16, 3) := by decide +kernel
theorem d7_62 : decode prog_47_method_8_code 62 = .ok (.if_icmp .ge 26, 3) := by decide +kernel
theorem d7_65 : decode prog_47_method_8_code 65 = .ok (.aload_n 0, 1) := by decide +kernel
theorem d7_66 : decode prog_47_method_8_code 66 = .ok (.getfield 7, 3) := by decide +kernel
theorem d7_69 : decode prog_47_method_8_code 69 = .ok (.iload 6, 2) := by decide +kernel
theorem d7_71 : decode prog_47_method_8_code 71 = .ok (.iconst 1, 1) := by decide +kernel
theorem d7_72 : decode prog_47_method_8_code 72 = .ok (.iadd, 1) := by decide +kernel
theorem d7_73 : decode prog_47_method_8_code 73 = .ok (.laload, 1) := by decide +kernel
theorem d7_74 : decode prog_47_method_8_code 74 = .ok (.aload_n 0, 1) := by decide +kernel
theorem d7_75 : decode prog_47_method_8_code 75 = .ok (.getfield 7, 3) := by decide +kernel
theorem d7_78 : decode prog_47_method_8_code 78 = .ok (.iload 6, 2) := by decide +kernel
theorem d7_80 : decode prog_47_method_8_code 80 = .ok (.laload, 1) := by decide +kernel
theorem d7_81 : decode prog_47_method_8_code 81 = .ok (.lcmp, 1) := by decide +kernel
theorem d7_82 : decode prog_47_method_8_code 82 = .ok (.ifCond .ge 6, 3) := by decide +kernel
theorem d7_85 : decode prog_47_method_8_code 85 = .ok (.iinc 6 1, 3) := by decide +kernel
theorem d7_88 : decode prog_47_method_8_code 88 = .ok (.aload_n 0, 1) := by decide +kernel
theorem d7_89 : decode prog_47_method_8_code 89 = .ok (.getfield 7, 3) := by decide +kernel
theorem d7_92 : decode prog_47_method_8_code 92 = .ok (.iload 6, 2) := by decide +kernel
theorem d7_94 : decode prog_47_method_8_code 94 = .ok (.laload, 1) := by decide +kernel
theorem d7_95 : decode prog_47_method_8_code 95 = .ok (.lload_n 1, 1) := by decide +kernel
theorem d7_96 : decode prog_47_method_8_code 96 = .ok (.lcmp, 1) := by decide +kernel
theorem d7_97 : decode prog_47_method_8_code 97 = .ok (.ifCond .lt 6, 3) := by decide +kernel
theorem d7_100 : decode prog_47_method_8_code 100 = .ok (.goto 38, 3) := by decide +kernel
theorem d7_103 : decode prog_47_method_8_code 103 = .ok (.aload_n 0, 1) := by decide +kernel
theorem d7_104 : decode prog_47_method_8_code 104 = .ok (.getfield 7, 3) := by decide +kernel
theorem d7_107 : decode prog_47_method_8_code 107 = .ok (.iload 5, 2) := by decide +kernel
theorem d7_109 : decode prog_47_method_8_code 109 = .ok (.aload_n 0, 1) := by decide +kernel
theorem d7_110 : decode prog_47_method_8_code 110 = .ok (.getfield 7, 3) := by decide +kernel
theorem d7_113 : decode prog_47_method_8_code 113 = .ok (.iload 6, 2) := by decide +kernel
theorem d7_115 : decode prog_47_method_8_code 115 = .ok (.laload, 1) := by decide +kernel
theorem d7_116 : decode prog_47_method_8_code 116 = .ok (.lastore, 1) := by decide +kernel
theorem d7_117 : decode prog_47_method_8_code 117 = .ok (.aload_n 0, 1) := by decide +kernel
theorem d7_118 : decode prog_47_method_8_code 118 = .ok (.getfield 13, 3) := by decide +kernel
theorem d7_121 : decode prog_47_method_8_code 121 = .ok (.iload 5, 2) := by decide +kernel
theorem d7_123 : decode prog_47_method_8_code 123 = .ok (.aload_n 0, 1) := by decide +kernel
theorem d7_124 : decode prog_47_method_8_code 124 = .ok (.getfield 13, 3) := by decide +kernel
theorem d7_127 : decode prog_47_method_8_code 127 = .ok (.iload 6, 2) := by decide +kernel
theorem d7_129 : decode prog_47_method_8_code 129 = .ok (.laload, 1) := by decide +kernel
theorem d7_130 : decode prog_47_method_8_code 130 = .ok (.lastore, 1) := by decide +kernel
theorem d7_131 : decode prog_47_method_8_code 131 = .ok (.iload 6, 2) := by decide +kernel
theorem d7_133 : decode prog_47_method_8_code 133 = .ok (.istore 5, 2) := by decide +kernel
theorem d7_135 : decode prog_47_method_8_code 135 = .ok (.goto (-102), 3) := by decide +kernel
theorem d7_138 : decode prog_47_method_8_code 138 = .ok (.aload_n 0, 1) := by decide +kernel
theorem d7_139 : decode prog_47_method_8_code 139 = .ok (.getfield 7, 3) := by decide +kernel
theorem d7_142 : decode prog_47_method_8_code 142 = .ok (.iload 5, 2) := by decide +kernel
theorem d7_144 : decode prog_47_method_8_code 144 = .ok (.lload_n 1, 1) := by decide +kernel
theorem d7_145 : decode prog_47_method_8_code 145 = .ok (.lastore, 1) := by decide +kernel
theorem d7_146 : decode prog_47_method_8_code 146 = .ok (.aload_n 0, 1) := by decide +kernel
theorem d7_147 : decode prog_47_method_8_code 147 = .ok (.getfield 13, 3) := by decide +kernel
theorem d7_150 : decode prog_47_method_8_code 150 = .ok (.iload 5, 2) := by decide +kernel
theorem d7_152 : decode prog_47_method_8_code 152 = .ok (.lload_n 3, 1) := by decide +kernel
theorem d7_153 : decode prog_47_method_8_code 153 = .ok (.lastore, 1) := by decide +kernel
theorem d7_154 : decode prog_47_method_8_code 154 = .ok (.return_, 1) := by decide +kernel
theorem d8_0 : decode prog_47_method_2_code 0 = .ok (.aload_n 0, 1) := by decide +kernel
theorem d8_1 : decode prog_47_method_2_code 1 = .ok (.getfield 16, 3) := by decide +kernel
theorem d8_4 : decode prog_47_method_2_code 4 = .ok (.ifCond .ne 7, 3) := by decide +kernel
theorem d8_7 : decode prog_47_method_2_code 7 = .ok (.iconst 1, 1) := by decide +kernel
theorem d8_8 : decode prog_47_method_2_code 8 = .ok (.goto 4, 3) := by decide +kernel
theorem d8_12 : decode prog_47_method_2_code 12 = .ok (.ireturn, 1) := by decide +kernel
theorem pd0 : parseMethodDescriptor "()J" = some ⟨[], some .long⟩ := by decide +kernel
theorem pd1 : parseMethodDescriptor "()I" = some ⟨[], some .int⟩ := by decide +kernel
theorem pd2 : parseMethodDescriptor "()V" = some ⟨[], none⟩ := by decide +kernel
theorem pd3 : parseMethodDescriptor "(JII)V" = some ⟨[.long, .int, .int], none⟩ := by decide +kernel
theorem pd4 : parseMethodDescriptor "(Lcom/example/mendb/mendb/LevelQueue;[J[J)Z" = some ⟨[(.object "com/example/mendb/mendb/LevelQueue"), (.array .long), (.array .long)], some .boolean⟩ := by decide +kernel
theorem pd5 : parseMethodDescriptor "()Z" = some ⟨[], some .boolean⟩ := by decide +kernel
theorem pn_mInit : plainFor (⟨"com/example/mendb/mendb/LevelQueue", "<init>", "()V"⟩ : MethodName) = true := by first | (refine plainFor_of_name ?_; simp [plainName, overriddenIn]; done) | (refine plainFor_of_name ?_; decide +kernel) | decide +kernel
set_option maxRecDepth 65536 in
set_option maxHeartbeats 40000000 in
theorem mInit (l : Launch) (Z : State) (n0 : Nat) (a0 : Array Value) (hw : ∀ d ∈ tables_1, d.before a0 Z = true) (F : Asn) (q : Addr) : Sp l Z n0 (⟨"com/example/mendb/mendb/LevelQueue", "<init>", "()V"⟩ : MethodName) prog_47_method_1_code 1 none ({ frames := 1, cells := 2, slots := 32, locals := 12 } : Room) [(.ref q)] ((q, (ShLQ Z .null .null (.int (0 : Int32)))) :: F) (fun v σ' => v = none ∧ ∃ lv tp, σ' = (q, ShLQ Z (.ref lv) (.ref tp) (.int 0)) :: (lv, LA Z (List.replicate 16 0)) :: (tp, LA Z (List.replicate 16 0)) :: F) := by
  refine Sp.of (ls := #[.val (.ref q)]) pn_mInit (fun m => by first | (simp [entryFrame, mkF, argsToLocals, Value.category]; done) | rfl) ?_
  show W _ _ _ _ _ _ 0 0 ((q, (ShLQ Z .null .null (.int (0 : Int32)))) :: F) 0 #[.val (.ref q)] []
  refine W.aloadN d1_0 (pc' := 1) rfl rfl rfl ?_
  refine W.initO d1_1 (wd hw 7 rfl) (wd hw 8 rfl) (wd hw 9 rfl) rfl (Nat.le_of_ble_eq_true rfl) (Nat.le_of_ble_eq_true rfl) (pc' := 4) rfl ?_
  refine W.aloadN d1_4 (pc' := 5) rfl rfl rfl ?_
  refine W.bipush (16 : Int32) d1_5 (pc' := 7) rfl rfl ?_
  refine W.newJ 16 16 d1_7 (wd hw 0 rfl) (by decide) rfl (by decide) (by decide) (by decide) (by decide) (pc' := 9) rfl ?_
  intro lv
  show W _ _ _ _ _ _ 1 16 ((lv, (LA Z (List.replicate 16 0))) :: (q, (ShLQ Z .null .null (.int (0 : Int32)))) :: F) 9 #[.val (.ref q)] [(.ref lv), (.ref q)]
  refine W.putF ((lv, (LA Z (List.replicate 16 0))) :: (q, (ShLQ Z (.ref lv) .null (.int (0 : Int32)))) :: F) 1 0 d1_9 (host := "") (Or.inl (wd hw 10 rfl)) Via.refl (Or.inl (wd hw 11 rfl)) (wd hw 2 rfl) (ty := (.array .long)) (by decide) rfl rfl rfl rfl rfl (pc' := 12) rfl ?_
  refine W.aloadN d1_12 (pc' := 13) rfl rfl rfl ?_
  refine W.bipush (16 : Int32) d1_13 (pc' := 15) rfl rfl ?_
  refine W.newJ 16 16 d1_15 (wd hw 0 rfl) (by decide) rfl (by decide) (by decide) (by decide) (by decide) (pc' := 17) rfl ?_
  intro tp
  show W _ _ _ _ _ _ 2 32 ((tp, (LA Z (List.replicate 16 0))) :: (lv, (LA Z (List.replicate 16 0))) :: (q, (ShLQ Z (.ref lv) .null (.int (0 : Int32)))) :: F) 17 #[.val (.ref q)] [(.ref tp), (.ref q)]
  refine W.putF ((tp, (LA Z (List.replicate 16 0))) :: (lv, (LA Z (List.replicate 16 0))) :: (q, (ShLQ Z (.ref lv) (.ref tp) (.int (0 : Int32)))) :: F) 2 1 d1_17 (host := "") (Or.inl (wd hw 12 rfl)) Via.refl (Or.inl (wd hw 13 rfl)) (wd hw 2 rfl) (ty := (.array .long)) (by decide) rfl rfl rfl rfl rfl (pc' := 20) rfl ?_
  refine W.pulls ((q, (ShLQ Z (.ref lv) (.ref tp) (.int (0 : Int32)))) :: (lv, (LA Z (List.replicate 16 0))) :: (tp, (LA Z (List.replicate 16 0))) :: F) [1, 2] rfl ?_
  exact W.retV d1_20 rfl (by decide) (by decide) ⟨rfl, lv, tp, rfl⟩
set_option maxRecDepth 65536 in
set_option maxHeartbeats 40000000 in
theorem addFin (l : Launch) (Z : State) (n0 : Nat) (a0 : Array Value) (hw : ∀ d ∈ tables_1, d.before a0 Z = true) (F : Asn) (q lv tp : Addr) (E0 : List Ent) (k : Nat) (lev : Int64) (sto ord : Int32) (hk : k < 16) (E : List Ent) (p : Nat) (s6 : Slot) (hl : E.length = 16) (hp : p < k + 1) (hh : own_hp (E.set p (lev, own_tp2 sto ord)) (k + 1)) (pm : ((E.set p (lev, own_tp2 sto ord)).take (k + 1)).Perm ((lev, own_tp2 sto ord) :: E0.take k)) : W l Z n0 ("com/example/mendb/mendb/LevelQueue", "add", prog_47_method_4_code, 7, none) ({ frames := 0, cells := 0, slots := 0, locals := 0 } : Room) (fun v σ' => v = none ∧ ∃ E' : List Ent, E'.length = 16 ∧ own_hp E' (k + 1) ∧ (E'.take (k + 1)).Perm ((lev, own_tp2 sto ord) :: E0.take k) ∧ σ' = (q, ShLQ Z (.ref lv) (.ref tp) (.int (Int32.ofNat (k + 1)))) :: (lv, LA Z (E'.map Prod.fst)) :: (tp, LA Z (E'.map Prod.snd)) :: F) 0 0 ((q, (ShLQ Z (.ref lv) (.ref tp) (.int (Int32.ofNat (k + 1))))) :: (lv, (LA Z (E.map Prod.fst))) :: (tp, (LA Z (E.map Prod.snd))) :: F) 126 #[.val (.ref q), .val (.long lev), .second, .val (.int sto), .val (.int ord), .val (.int (Int32.ofNat p)), s6] [] := by
  refine W.aloadN d3_126 (pc' := 127) rfl rfl rfl ?_
  refine W.getF 0 0 d3_127 (host := "") (Or.inl (wd hw 10 rfl)) Via.refl rfl rfl (pc' := 130) rfl ?_
  refine W.iload d3_130 (pc' := 132) rfl rfl ?_
  refine W.lloadN d3_132 (pc' := 133) rfl rfl ?_
  refine W.lastore ((q, (ShLQ Z (.ref lv) (.ref tp) (.int (Int32.ofNat (k + 1))))) :: (lv, (LA Z ((E.map Prod.fst).set p lev))) :: (tp, (LA Z (E.map Prod.snd))) :: F) 1 p d3_133 rfl (own_nn (by omega)) (own_tn (by omega)) (by rw [List.length_map]; omega) rfl (pc' := 134) rfl ?_
  refine W.aloadN d3_134 (pc' := 135) rfl rfl rfl ?_
  refine W.getF 0 1 d3_135 (host := "") (Or.inl (wd hw 12 rfl)) Via.refl rfl rfl (pc' := 138) rfl ?_
  refine W.iload d3_138 (pc' := 140) rfl rfl ?_
  refine W.iloadN d3_140 (pc' := 141) rfl rfl ?_
  refine W.i2l d3_141 (pc' := 142) rfl ?_
  refine W.bipush (32 : Int32) d3_142 (pc' := 144) rfl rfl ?_
  refine W.lshl d3_144 (pc' := 145) rfl ?_
  refine W.iload d3_145 (pc' := 147) rfl rfl ?_
  refine W.i2l d3_147 (pc' := 148) rfl ?_
  refine W.lor d3_148 (pc' := 149) rfl ?_
  refine W.lastore ((q, (ShLQ Z (.ref lv) (.ref tp) (.int (Int32.ofNat (k + 1))))) :: (lv, (LA Z ((E.map Prod.fst).set p lev))) :: (tp, (LA Z ((E.map Prod.snd).set p ((sto.toInt64 <<< ((32 : Int32).toInt64 &&& 63)) ||| ord.toInt64)))) :: F) 2 p d3_149 rfl (own_nn (by omega)) (own_tn (by omega)) (by rw [List.length_map]; omega) rfl (pc' := 150) rfl ?_
  exact W.retV d3_150 rfl (by decide) (by decide) ⟨rfl, E.set p (lev, own_tp2 sto ord), by rw [List.length_set]; exact hl, hh, pm, by rw [List.map_set, List.map_set]⟩
set_option maxRecDepth 65536 in
set_option maxHeartbeats 40000000 in
theorem addLoop (l : Launch) (Z : State) (n0 : Nat) (a0 : Array Value) (hw : ∀ d ∈ tables_1, d.before a0 Z = true) (F : Asn) (q lv tp : Addr) (E0 : List Ent) (k : Nat) (lev : Int64) (sto ord : Int32) (hk : k < 16) : ∀ (p : Nat) (E : List Ent) (s6 : Slot), own_s6 s6 → E.length = 16 → p < k + 1 → own_up E (k + 1) p (lev, own_tp2 sto ord) → ((E.set p (lev, own_tp2 sto ord)).take (k + 1)).Perm ((lev, own_tp2 sto ord) :: E0.take k) → W l Z n0 ("com/example/mendb/mendb/LevelQueue", "add", prog_47_method_4_code, 7, none) ({ frames := 0, cells := 0, slots := 0, locals := 0 } : Room) (fun v σ' => v = none ∧ ∃ E' : List Ent, E'.length = 16 ∧ own_hp E' (k + 1) ∧ (E'.take (k + 1)).Perm ((lev, own_tp2 sto ord) :: E0.take k) ∧ σ' = (q, ShLQ Z (.ref lv) (.ref tp) (.int (Int32.ofNat (k + 1)))) :: (lv, LA Z (E'.map Prod.fst)) :: (tp, LA Z (E'.map Prod.snd)) :: F) 0 0 ((q, (ShLQ Z (.ref lv) (.ref tp) (.int (Int32.ofNat (k + 1))))) :: (lv, (LA Z (E.map Prod.fst))) :: (tp, (LA Z (E.map Prod.snd))) :: F) 62 #[.val (.ref q), .val (.long lev), .second, .val (.int sto), .val (.int ord), .val (.int (Int32.ofNat p)), s6] [] := by
  intro p
  induction p using Nat.strongRecOn with
  | _ p ih =>
    intro E s6 h6 hl hp hu pm
    refine W.iload d3_62 (pc' := 64) rfl rfl ?_
    by_cases c0 : 0 < p
    · refine W.ifN d3_64 (XT.i0_le_f (own_pos (by omega) c0)) (pc' := 67) rfl ?_
      refine W.aloadN d3_67 (pc' := 68) rfl rfl rfl ?_
      refine W.getF 0 0 d3_68 (host := "") (Or.inl (wd hw 10 rfl)) Via.refl rfl rfl (pc' := 71) rfl ?_
      refine W.iload d3_71 (pc' := 73) rfl rfl ?_
      refine W.iconst (1 : Int32) d3_73 (pc' := 74) rfl rfl ?_
      refine W.isub d3_74 (pc' := 75) rfl ?_
      refine W.iconst (2 : Int32) d3_75 (pc' := 76) rfl rfl ?_
      refine W.idiv d3_76 (pc' := 77) rfl (by decide) ?_
      refine W.topI (Int32.ofNat ((p - 1) / 2)) (own_par (by omega) c0) ?_
      refine W.laload 1 ((p - 1) / 2) (x := (own_ky E ((p - 1) / 2)).1) d3_77 rfl (own_nn (by omega)) (own_tn (by omega)) (own_l1 (by omega)) (pc' := 78) rfl ?_
      refine W.lloadN d3_78 (pc' := 79) rfl rfl ?_
      refine W.lcmp d3_79 (pc' := 80) rfl ?_
      by_cases c1 : lev < (own_ky E ((p - 1) / 2)).1
      · refine W.ifN d3_80 (XT.ll_le_f c1) (pc' := 83) rfl ?_
        refine W.iload d3_83 (pc' := 85) rfl rfl ?_
        refine W.iconst (1 : Int32) d3_85 (pc' := 86) rfl rfl ?_
        refine W.isub d3_86 (pc' := 87) rfl ?_
        refine W.iconst (2 : Int32) d3_87 (pc' := 88) rfl rfl ?_
        refine W.idiv d3_88 (pc' := 89) rfl (by decide) ?_
        refine W.topI (Int32.ofNat ((p - 1) / 2)) (own_par (by omega) c0) ?_
        refine W.istore #[.val (.ref q), .val (.long lev), .second, .val (.int sto), .val (.int ord), .val (.int (Int32.ofNat p)), .val (.int (Int32.ofNat ((p - 1) / 2)))] d3_89 (pc' := 91) rfl (by rcases h6 with rfl | ⟨w, rfl⟩ <;> rfl) ?_
        refine W.aloadN d3_91 (pc' := 92) rfl rfl rfl ?_
        refine W.getF 0 0 d3_92 (host := "") (Or.inl (wd hw 10 rfl)) Via.refl rfl rfl (pc' := 95) rfl ?_
        refine W.iload d3_95 (pc' := 97) rfl rfl ?_
        refine W.aloadN d3_97 (pc' := 98) rfl rfl rfl ?_
        refine W.getF 0 0 d3_98 (host := "") (Or.inl (wd hw 10 rfl)) Via.refl rfl rfl (pc' := 101) rfl ?_
        refine W.iload d3_101 (pc' := 103) rfl rfl ?_
        refine W.laload 1 ((p - 1) / 2) (x := (own_ky E ((p - 1) / 2)).1) d3_103 rfl (own_nn (by omega)) (own_tn (by omega)) (own_l1 (by omega)) (pc' := 104) rfl ?_
        refine W.lastore ((q, (ShLQ Z (.ref lv) (.ref tp) (.int (Int32.ofNat (k + 1))))) :: (lv, (LA Z ((E.map Prod.fst).set p (own_ky E ((p - 1) / 2)).1))) :: (tp, (LA Z (E.map Prod.snd))) :: F) 1 p d3_104 rfl (own_nn (by omega)) (own_tn (by omega)) (by rw [List.length_map]; omega) rfl (pc' := 105) rfl ?_
        refine W.aloadN d3_105 (pc' := 106) rfl rfl rfl ?_
        refine W.getF 0 1 d3_106 (host := "") (Or.inl (wd hw 12 rfl)) Via.refl rfl rfl (pc' := 109) rfl ?_
        refine W.iload d3_109 (pc' := 111) rfl rfl ?_
        refine W.aloadN d3_111 (pc' := 112) rfl rfl rfl ?_
        refine W.getF 0 1 d3_112 (host := "") (Or.inl (wd hw 12 rfl)) Via.refl rfl rfl (pc' := 115) rfl ?_
        refine W.iload d3_115 (pc' := 117) rfl rfl ?_
        refine W.laload 2 ((p - 1) / 2) (x := (own_ky E ((p - 1) / 2)).2) d3_117 rfl (own_nn (by omega)) (own_tn (by omega)) (own_l2 (by omega)) (pc' := 118) rfl ?_
        refine W.lastore ((q, (ShLQ Z (.ref lv) (.ref tp) (.int (Int32.ofNat (k + 1))))) :: (lv, (LA Z ((E.map Prod.fst).set p (own_ky E ((p - 1) / 2)).1))) :: (tp, (LA Z ((E.map Prod.snd).set p (own_ky E ((p - 1) / 2)).2))) :: F) 2 p d3_118 rfl (own_nn (by omega)) (own_tn (by omega)) (by rw [List.length_map]; omega) rfl (pc' := 119) rfl ?_
        refine W.iload d3_119 (pc' := 121) rfl rfl ?_
        refine W.istore #[.val (.ref q), .val (.long lev), .second, .val (.int sto), .val (.int ord), .val (.int (Int32.ofNat ((p - 1) / 2))), .val (.int (Int32.ofNat ((p - 1) / 2)))] d3_121 (pc' := 123) rfl rfl ?_
        refine W.goto d3_123 (pc' := 62) (by decide) rfl ?_
        have hq9 := ih ((p - 1) / 2) (by omega) (E.set p (own_ky E ((p - 1) / 2))) (.val (.int (Int32.ofNat ((p - 1) / 2)))) (Or.inr ⟨_, rfl⟩) (by rw [List.length_set]; exact hl) (by omega) (own_up_step (by omega) hp c0 c1 hu) ((own_swap (by omega) hp (by omega) (by omega)).trans pm)
        rw [List.map_set, List.map_set] at hq9
        exact hq9
      · refine W.ifY d3_80 (XT.ll_le_t c1) (by decide) (pc' := 126) rfl ?_
        exact addFin l Z n0 a0 hw F q lv tp E0 k lev sto ord hk E p s6 hl hp (own_up_end (by omega) hp (fun _ => Int64.not_lt.mp c1) hu) pm
    · refine W.ifY d3_64 (XT.i0_le_t (by rw [show p = 0 by omega]; decide)) (by decide) (pc' := 126) rfl ?_
      exact addFin l Z n0 a0 hw F q lv tp E0 k lev sto ord hk E p s6 hl hp (own_up_end (by omega) hp (fun z => absurd z c0) hu) pm
theorem pn_mAdd : plainFor (⟨"com/example/mendb/mendb/LevelQueue", "add", "(JII)V"⟩ : MethodName) = true := by first | (refine plainFor_of_name ?_; simp [plainName, overriddenIn]; done) | (refine plainFor_of_name ?_; decide +kernel) | decide +kernel
set_option maxRecDepth 65536 in
set_option maxHeartbeats 40000000 in
theorem mAdd (l : Launch) (Z : State) (n0 : Nat) (a0 : Array Value) (hw : ∀ d ∈ tables_1, d.before a0 Z = true) (F : Asn) (q lv tp : Addr) (E0 : List Ent) (k : Nat) (lev : Int64) (sto ord : Int32) (hk : k < 16) (hl : E0.length = 16) (hh : own_hp E0 k) : Sp l Z n0 (⟨"com/example/mendb/mendb/LevelQueue", "add", "(JII)V"⟩ : MethodName) prog_47_method_4_code 7 none ({ frames := 0, cells := 0, slots := 0, locals := 0 } : Room) [(.ref q), (.long lev), (.int sto), (.int ord)] ((q, (ShLQ Z (.ref lv) (.ref tp) (.int (Int32.ofNat k)))) :: (lv, (LA Z (E0.map Prod.fst))) :: (tp, (LA Z (E0.map Prod.snd))) :: F) (fun v σ' => v = none ∧ ∃ E' : List Ent, E'.length = 16 ∧ own_hp E' (k + 1) ∧ (E'.take (k + 1)).Perm ((lev, own_tp2 sto ord) :: E0.take k) ∧ σ' = (q, ShLQ Z (.ref lv) (.ref tp) (.int (Int32.ofNat (k + 1)))) :: (lv, LA Z (E'.map Prod.fst)) :: (tp, LA Z (E'.map Prod.snd)) :: F) := by
  refine Sp.of (ls := #[.val (.ref q), .val (.long lev), .second, .val (.int sto), .val (.int ord), .unset, .unset]) pn_mAdd (fun m => by first | (simp [entryFrame, mkF, argsToLocals, Value.category]; done) | rfl) ?_
  show W _ _ _ _ _ _ 0 0 ((q, (ShLQ Z (.ref lv) (.ref tp) (.int (Int32.ofNat k)))) :: (lv, (LA Z (E0.map Prod.fst))) :: (tp, (LA Z (E0.map Prod.snd))) :: F) 0 #[.val (.ref q), .val (.long lev), .second, .val (.int sto), .val (.int ord), .unset, .unset] []
  refine W.aloadN d3_0 (pc' := 1) rfl rfl rfl ?_
  refine W.getF 0 2 d3_1 (host := "") (Or.inl (wd hw 19 rfl)) Via.refl rfl rfl (pc' := 4) rfl ?_
  refine W.aloadN d3_4 (pc' := 5) rfl rfl rfl ?_
  refine W.getF 0 0 d3_5 (host := "") (Or.inl (wd hw 10 rfl)) Via.refl rfl rfl (pc' := 8) rfl ?_
  refine W.lenJ 1 (16 : Int32) d3_8 rfl (by rw [List.length_map, hl]; rfl) (pc' := 9) rfl ?_
  refine W.icmpY d3_9 (XT.ii_ne_t (own_ne16 hk)) (by decide) (pc' := 46) rfl ?_
  refine W.aloadN d3_46 (pc' := 47) rfl rfl rfl ?_
  refine W.getF 0 2 d3_47 (host := "") (Or.inl (wd hw 19 rfl)) Via.refl rfl rfl (pc' := 50) rfl ?_
  refine W.istore #[.val (.ref q), .val (.long lev), .second, .val (.int sto), .val (.int ord), .val (.int (Int32.ofNat k)), .unset] d3_50 (pc' := 52) rfl rfl ?_
  refine W.aloadN d3_52 (pc' := 53) rfl rfl rfl ?_
  refine W.dup d3_53 (pc' := 54) rfl rfl ?_
  refine W.getF 0 2 d3_54 (host := "") (Or.inl (wd hw 19 rfl)) Via.refl rfl rfl (pc' := 57) rfl ?_
  refine W.iconst (1 : Int32) d3_57 (pc' := 58) rfl rfl ?_
  refine W.iadd d3_58 (pc' := 59) rfl ?_
  refine W.topI (Int32.ofNat (k + 1)) (own_succ hk) ?_
  refine W.putF ((q, (ShLQ Z (.ref lv) (.ref tp) (.int (Int32.ofNat (k + 1))))) :: (lv, (LA Z (E0.map Prod.fst))) :: (tp, (LA Z (E0.map Prod.snd))) :: F) 0 2 d3_59 (host := "") (Or.inl (wd hw 19 rfl)) Via.refl (Or.inl (wd hw 20 rfl)) (wd hw 2 rfl) (ty := .int) (by decide) rfl rfl rfl rfl rfl (pc' := 62) rfl ?_
  exact addLoop l Z n0 a0 hw F q lv tp E0 k lev sto ord hk k E0 _ (Or.inl rfl) hl (by omega) (own_up_start (by omega) hh) (own_take_set_last (by omega))
theorem pn_mLevel : plainFor (⟨"com/example/mendb/mendb/LevelQueue", "level", "()J"⟩ : MethodName) = true := by first | (refine plainFor_of_name ?_; simp [plainName, overriddenIn]; done) | (refine plainFor_of_name ?_; decide +kernel) | decide +kernel
set_option maxRecDepth 65536 in
set_option maxHeartbeats 40000000 in
theorem mLevel (l : Launch) (Z : State) (n0 : Nat) (a0 : Array Value) (hw : ∀ d ∈ tables_1, d.before a0 Z = true) (F : Asn) (q lv tp : Addr) (E : List Ent) (k : Nat) (hl : E.length = 16) : Sp l Z n0 (⟨"com/example/mendb/mendb/LevelQueue", "level", "()J"⟩ : MethodName) prog_47_method_5_code 1 (some .long) ({ frames := 0, cells := 0, slots := 0, locals := 0 } : Room) [(.ref q)] ((q, (ShLQ Z (.ref lv) (.ref tp) (.int (Int32.ofNat k)))) :: (lv, (LA Z (E.map Prod.fst))) :: (tp, (LA Z (E.map Prod.snd))) :: F) (Ret (some (.long (own_ky E 0).1)) ((q, (ShLQ Z (.ref lv) (.ref tp) (.int (Int32.ofNat k)))) :: (lv, (LA Z (E.map Prod.fst))) :: (tp, (LA Z (E.map Prod.snd))) :: F)) := by
  refine Sp.of (ls := #[.val (.ref q)]) pn_mLevel (fun m => by first | (simp [entryFrame, mkF, argsToLocals, Value.category]; done) | rfl) ?_
  show W _ _ _ _ _ _ 0 0 ((q, (ShLQ Z (.ref lv) (.ref tp) (.int (Int32.ofNat k)))) :: (lv, (LA Z (E.map Prod.fst))) :: (tp, (LA Z (E.map Prod.snd))) :: F) 0 #[.val (.ref q)] []
  refine W.aloadN d5_0 (pc' := 1) rfl rfl rfl ?_
  refine W.getF 0 0 d5_1 (host := "") (Or.inl (wd hw 10 rfl)) Via.refl rfl rfl (pc' := 4) rfl ?_
  refine W.iconst (0 : Int32) d5_4 (pc' := 5) rfl rfl ?_
  refine W.laload 1 0 (x := (own_ky E 0).1) d5_5 rfl (by decide) rfl (own_l1 (by omega)) (pc' := 6) rfl ?_
  exact W.retJ d5_6 rfl (by decide) (by decide) ⟨rfl, rfl⟩
theorem pn_mStore : plainFor (⟨"com/example/mendb/mendb/LevelQueue", "store", "()I"⟩ : MethodName) = true := by first | (refine plainFor_of_name ?_; simp [plainName, overriddenIn]; done) | (refine plainFor_of_name ?_; decide +kernel) | decide +kernel
set_option maxRecDepth 65536 in
set_option maxHeartbeats 40000000 in
theorem mStore (l : Launch) (Z : State) (n0 : Nat) (a0 : Array Value) (hw : ∀ d ∈ tables_1, d.before a0 Z = true) (F : Asn) (q lv tp : Addr) (E : List Ent) (k : Nat) (hl : E.length = 16) : Sp l Z n0 (⟨"com/example/mendb/mendb/LevelQueue", "store", "()I"⟩ : MethodName) prog_47_method_6_code 1 (some .int) ({ frames := 0, cells := 0, slots := 0, locals := 0 } : Room) [(.ref q)] ((q, (ShLQ Z (.ref lv) (.ref tp) (.int (Int32.ofNat k)))) :: (lv, (LA Z (E.map Prod.fst))) :: (tp, (LA Z (E.map Prod.snd))) :: F) (Ret (some (.int (XT.ushrL (own_ky E 0).2 32).toInt32)) ((q, (ShLQ Z (.ref lv) (.ref tp) (.int (Int32.ofNat k)))) :: (lv, (LA Z (E.map Prod.fst))) :: (tp, (LA Z (E.map Prod.snd))) :: F)) := by
  refine Sp.of (ls := #[.val (.ref q)]) pn_mStore (fun m => by first | (simp [entryFrame, mkF, argsToLocals, Value.category]; done) | rfl) ?_
  show W _ _ _ _ _ _ 0 0 ((q, (ShLQ Z (.ref lv) (.ref tp) (.int (Int32.ofNat k)))) :: (lv, (LA Z (E.map Prod.fst))) :: (tp, (LA Z (E.map Prod.snd))) :: F) 0 #[.val (.ref q)] []
  refine W.aloadN d6_0 (pc' := 1) rfl rfl rfl ?_
  refine W.getF 0 1 d6_1 (host := "") (Or.inl (wd hw 12 rfl)) Via.refl rfl rfl (pc' := 4) rfl ?_
  refine W.iconst (0 : Int32) d6_4 (pc' := 5) rfl rfl ?_
  refine W.laload 2 0 (x := (own_ky E 0).2) d6_5 rfl (by decide) rfl (own_l2 (by omega)) (pc' := 6) rfl ?_
  refine W.bipush (32 : Int32) d6_6 (pc' := 8) rfl rfl ?_
  refine W.lushr d6_8 (pc' := 9) rfl ?_
  refine W.l2i d6_9 (pc' := 10) rfl ?_
  exact W.retI d6_10 rfl (by decide) (by decide) ⟨rfl, rfl⟩
theorem pn_mEmpty : plainFor (⟨"com/example/mendb/mendb/LevelQueue", "isEmpty", "()Z"⟩ : MethodName) = true := by first | (refine plainFor_of_name ?_; simp [plainName, overriddenIn]; done) | (refine plainFor_of_name ?_; decide +kernel) | decide +kernel
set_option maxRecDepth 65536 in
set_option maxHeartbeats 40000000 in
theorem mEmpty (l : Launch) (Z : State) (n0 : Nat) (a0 : Array Value) (hw : ∀ d ∈ tables_1, d.before a0 Z = true) (F : Asn) (q lv tp : Addr) (E : List Ent) : Sp l Z n0 (⟨"com/example/mendb/mendb/LevelQueue", "isEmpty", "()Z"⟩ : MethodName) prog_47_method_2_code 1 (some .boolean) ({ frames := 0, cells := 0, slots := 0, locals := 0 } : Room) [(.ref q)] ((q, (ShLQ Z (.ref lv) (.ref tp) (.int (Int32.ofNat 0)))) :: (lv, (LA Z (E.map Prod.fst))) :: (tp, (LA Z (E.map Prod.snd))) :: F) (Ret (some (.int 1)) ((q, (ShLQ Z (.ref lv) (.ref tp) (.int (Int32.ofNat 0)))) :: (lv, (LA Z (E.map Prod.fst))) :: (tp, (LA Z (E.map Prod.snd))) :: F)) := by
  refine Sp.of (ls := #[.val (.ref q)]) pn_mEmpty (fun m => by first | (simp [entryFrame, mkF, argsToLocals, Value.category]; done) | rfl) ?_
  show W _ _ _ _ _ _ 0 0 ((q, (ShLQ Z (.ref lv) (.ref tp) (.int (Int32.ofNat 0)))) :: (lv, (LA Z (E.map Prod.fst))) :: (tp, (LA Z (E.map Prod.snd))) :: F) 0 #[.val (.ref q)] []
  refine W.aloadN d8_0 (pc' := 1) rfl rfl rfl ?_
  refine W.getF 0 2 d8_1 (host := "") (Or.inl (wd hw 19 rfl)) Via.refl rfl rfl (pc' := 4) rfl ?_
  refine W.ifN d8_4 (XT.i0_ne_f rfl) (pc' := 7) rfl ?_
  refine W.iconst (1 : Int32) d8_7 (pc' := 8) rfl rfl ?_
  refine W.goto d8_8 (pc' := 12) (by decide) rfl ?_
  exact W.retN (t := .boolean) 1 d8_12 rfl (by simp) rfl (by decide) (by decide) ⟨rfl, rfl⟩
set_option maxRecDepth 65536 in
set_option maxHeartbeats 40000000 in
theorem remFin (l : Launch) (Z : State) (n0 : Nat) (a0 : Array Value) (hw : ∀ d ∈ tables_1, d.before a0 Z = true) (F : Asn) (q lv tp : Addr) (E0 : List Ent) (m : Nat) (hm : m < 16) (E : List Ent) (p : Nat) (s6 : Slot) (hl : E.length = 16) (hp : p < 16) (hh : own_hp (E.set p (own_ky E0 m)) m) (pm : (E0.take (m + 1)).Perm (own_ky E0 0 :: (E.set p (own_ky E0 m)).take m)) : W l Z n0 ("com/example/mendb/mendb/LevelQueue", "remove", prog_47_method_8_code, 7, none) ({ frames := 0, cells := 0, slots := 0, locals := 0 } : Room) (fun v σ' => v = none ∧ ∃ E' : List Ent, E'.length = 16 ∧ own_hp E' m ∧ (E0.take (m + 1)).Perm (own_ky E0 0 :: E'.take m) ∧ σ' = (q, ShLQ Z (.ref lv) (.ref tp) (.int (Int32.ofNat m))) :: (lv, LA Z (E'.map Prod.fst)) :: (tp, LA Z (E'.map Prod.snd)) :: F) 0 0 ((q, (ShLQ Z (.ref lv) (.ref tp) (.int (Int32.ofNat m)))) :: (lv, (LA Z (E.map Prod.fst))) :: (tp, (LA Z (E.map Prod.snd))) :: F) 138 #[.val (.ref q), .val (.long (own_ky E0 m).1), .second, .val (.long (own_ky E0 m).2), .second, .val (.int (Int32.ofNat p)), s6] [] := by
  refine W.aloadN d7_138 (pc' := 139) rfl rfl rfl ?_
  refine W.getF 0 0 d7_139 (host := "") (Or.inl (wd hw 10 rfl)) Via.refl rfl rfl (pc' := 142) rfl ?_
  refine W.iload d7_142 (pc' := 144) rfl rfl ?_
  refine W.lloadN d7_144 (pc' := 145) rfl rfl ?_
  refine W.lastore ((q, (ShLQ Z (.ref lv) (.ref tp) (.int (Int32.ofNat m)))) :: (lv, (LA Z ((E.map Prod.fst).set p (own_ky E0 m).1))) :: (tp, (LA Z (E.map Prod.snd))) :: F) 1 p d7_145 rfl (own_nn hp) (own_tn hp) (by rw [List.length_map]; omega) rfl (pc' := 146) rfl ?_
  refine W.aloadN d7_146 (pc' := 147) rfl rfl rfl ?_
  refine W.getF 0 1 d7_147 (host := "") (Or.inl (wd hw 12 rfl)) Via.refl rfl rfl (pc' := 150) rfl ?_
  refine W.iload d7_150 (pc' := 152) rfl rfl ?_
  refine W.lloadN d7_152 (pc' := 153) rfl rfl ?_
  refine W.lastore ((q, (ShLQ Z (.ref lv) (.ref tp) (.int (Int32.ofNat m)))) :: (lv, (LA Z ((E.map Prod.fst).set p (own_ky E0 m).1))) :: (tp, (LA Z ((E.map Prod.snd).set p (own_ky E0 m).2))) :: F) 2 p d7_153 rfl (own_nn hp) (own_tn hp) (by rw [List.length_map]; omega) rfl (pc' := 154) rfl ?_
  exact W.retV d7_154 rfl (by decide) (by decide) ⟨rfl, E.set p (own_ky E0 m), by rw [List.length_set]; exact hl, hh, pm, by rw [List.map_set, List.map_set]⟩
set_option maxRecDepth 65536 in
set_option maxHeartbeats 40000000 in
theorem remLoop (l : Launch) (Z : State) (n0 : Nat) (a0 : Array Value) (hw : ∀ d ∈ tables_1, d.before a0 Z = true) (F : Asn) (q lv tp : Addr) (E0 : List Ent) (m : Nat) (hm : m < 16) : ∀ (t p : Nat) (E : List Ent) (s6 : Slot), m - p ≤ t → own_s6 s6 → E.length = 16 → p < 16 → own_dn E m p (own_ky E0 m) → (E0.take (m + 1)).Perm (own_ky E0 0 :: (E.set p (own_ky E0 m)).take m) → W l Z n0 ("com/example/mendb/mendb/LevelQueue", "remove", prog_47_method_8_code, 7, none) ({ frames := 0, cells := 0, slots := 0, locals := 0 } : Room) (fun v σ' => v = none ∧ ∃ E' : List Ent, E'.length = 16 ∧ own_hp E' m ∧ (E0.take (m + 1)).Perm (own_ky E0 0 :: E'.take m) ∧ σ' = (q, ShLQ Z (.ref lv) (.ref tp) (.int (Int32.ofNat m))) :: (lv, LA Z (E'.map Prod.fst)) :: (tp, LA Z (E'.map Prod.snd)) :: F) 0 0 ((q, (ShLQ Z (.ref lv) (.ref tp) (.int (Int32.ofNat m)))) :: (lv, (LA Z (E.map Prod.fst))) :: (tp, (LA Z (E.map Prod.snd))) :: F) 33 #[.val (.ref q), .val (.long (own_ky E0 m).1), .second, .val (.long (own_ky E0 m).2), .second, .val (.int (Int32.ofNat p)), s6] [] := by
  intro t
  induction t with
  | zero =>
    intro p E s6 ht h6 hl hp hd pm
    refine W.iconst (2 : Int32) d7_33 (pc' := 34) rfl rfl ?_
    refine W.iload d7_34 (pc' := 36) rfl rfl ?_
    refine W.imul d7_36 (pc' := 37) rfl ?_
    refine W.iconst (1 : Int32) d7_37 (pc' := 38) rfl rfl ?_
    refine W.iadd d7_38 (pc' := 39) rfl ?_
    refine W.topI (Int32.ofNat (2 * p + 1)) (own_ch hp) ?_
    refine W.aloadN d7_39 (pc' := 40) rfl rfl rfl ?_
    refine W.getF 0 2 d7_40 (host := "") (Or.inl (wd hw 19 rfl)) Via.refl rfl rfl (pc' := 43) rfl ?_
    refine W.icmpY d7_43 (XT.ii_ge_t (fun z => absurd ((own_lt (by omega) (by omega)).mp z) (by omega))) (by decide) (pc' := 138) rfl ?_
    exact remFin l Z n0 a0 hw F q lv tp E0 m hm E p s6 hl hp (own_dn_end (by omega) (by omega) (fun i h0 hi hip => by omega) hd) pm
  | succ t ih =>
    intro p E s6 ht h6 hl hp hd pm
    refine W.iconst (2 : Int32) d7_33 (pc' := 34) rfl rfl ?_
    refine W.iload d7_34 (pc' := 36) rfl rfl ?_
    refine W.imul d7_36 (pc' := 37) rfl ?_
    refine W.iconst (1 : Int32) d7_37 (pc' := 38) rfl rfl ?_
    refine W.iadd d7_38 (pc' := 39) rfl ?_
    refine W.topI (Int32.ofNat (2 * p + 1)) (own_ch hp) ?_
    refine W.aloadN d7_39 (pc' := 40) rfl rfl rfl ?_
    refine W.getF 0 2 d7_40 (host := "") (Or.inl (wd hw 19 rfl)) Via.refl rfl rfl (pc' := 43) rfl ?_
    by_cases c0 : 2 * p + 1 < m
    · refine W.icmpN d7_43 (XT.ii_ge_f ((own_lt (by omega) (by omega)).mpr c0)) (pc' := 46) rfl ?_
      refine W.iconst (2 : Int32) d7_46 (pc' := 47) rfl rfl ?_
      refine W.iload d7_47 (pc' := 49) rfl rfl ?_
      refine W.imul d7_49 (pc' := 50) rfl ?_
      refine W.iconst (1 : Int32) d7_50 (pc' := 51) rfl rfl ?_
      refine W.iadd d7_51 (pc' := 52) rfl ?_
      refine W.topI (Int32.ofNat (2 * p + 1)) (own_ch hp) ?_
      refine W.istore #[.val (.ref q), .val (.long (own_ky E0 m).1), .second, .val (.long (own_ky E0 m).2), .second, .val (.int (Int32.ofNat p)), .val (.int (Int32.ofNat (2 * p + 1)))] d7_52 (pc' := 54) rfl (by rcases h6 with rfl | ⟨w, rfl⟩ <;> rfl) ?_
      have j88 : ∀ (c : Nat) (_ : c < m) (_ : (c - 1) / 2 = p) (_ : 0 < c) (_ : ∀ i, 0 < i → i < m → (i - 1) / 2 = p → (own_ky E c).1 ≤ (own_ky E i).1), W l Z n0 ("com/example/mendb/mendb/LevelQueue", "remove", prog_47_method_8_code, 7, none) ({ frames := 0, cells := 0, slots := 0, locals := 0 } : Room) (fun v σ' => v = none ∧ ∃ E' : List Ent, E'.length = 16 ∧ own_hp E' m ∧ (E0.take (m + 1)).Perm (own_ky E0 0 :: E'.take m) ∧ σ' = (q, ShLQ Z (.ref lv) (.ref tp) (.int (Int32.ofNat m))) :: (lv, LA Z (E'.map Prod.fst)) :: (tp, LA Z (E'.map Prod.snd)) :: F) 0 0 ((q, (ShLQ Z (.ref lv) (.ref tp) (.int (Int32.ofNat m)))) :: (lv, (LA Z (E.map Prod.fst))) :: (tp, (LA Z (E.map Prod.snd))) :: F) 88 #[.val (.ref q), .val (.long (own_ky E0 m).1), .second, .val (.long (own_ky E0 m).2), .second, .val (.int (Int32.ofNat p)), .val (.int (Int32.ofNat c))] [] := by
        intro c hc hcp hc0 hmin
        refine W.aloadN d7_88 (pc' := 89) rfl rfl rfl ?_
        refine W.getF 0 0 d7_89 (host := "") (Or.inl (wd hw 10 rfl)) Via.refl rfl rfl (pc' := 92) rfl ?_
        refine W.iload d7_92 (pc' := 94) rfl rfl ?_
        refine W.laload 1 c (x := (own_ky E c).1) d7_94 rfl (own_nn (by omega)) (own_tn (by omega)) (own_l1 (by omega)) (pc' := 95) rfl ?_
        refine W.lloadN d7_95 (pc' := 96) rfl rfl ?_
        refine W.lcmp d7_96 (pc' := 97) rfl ?_
        by_cases c4 : (own_ky E c).1 < (own_ky E0 m).1
        · refine W.ifY d7_97 (XT.ll_lt_t c4) (by decide) (pc' := 103) rfl ?_
          refine W.aloadN d7_103 (pc' := 104) rfl rfl rfl ?_
          refine W.getF 0 0 d7_104 (host := "") (Or.inl (wd hw 10 rfl)) Via.refl rfl rfl (pc' := 107) rfl ?_
          refine W.iload d7_107 (pc' := 109) rfl rfl ?_
          refine W.aloadN d7_109 (pc' := 110) rfl rfl rfl ?_
          refine W.getF 0 0 d7_110 (host := "") (Or.inl (wd hw 10 rfl)) Via.refl rfl rfl (pc' := 113) rfl ?_
          refine W.iload d7_113 (pc' := 115) rfl rfl ?_
          refine W.laload 1 c (x := (own_ky E c).1) d7_115 rfl (own_nn (by omega)) (own_tn (by omega)) (own_l1 (by omega)) (pc' := 116) rfl ?_
          refine W.lastore ((q, (ShLQ Z (.ref lv) (.ref tp) (.int (Int32.ofNat m)))) :: (lv, (LA Z ((E.map Prod.fst).set p (own_ky E c).1))) :: (tp, (LA Z (E.map Prod.snd))) :: F) 1 p d7_116 rfl (own_nn hp) (own_tn hp) (by rw [List.length_map]; omega) rfl (pc' := 117) rfl ?_
          refine W.aloadN d7_117 (pc' := 118) rfl rfl rfl ?_
          refine W.getF 0 1 d7_118 (host := "") (Or.inl (wd hw 12 rfl)) Via.refl rfl rfl (pc' := 121) rfl ?_
          refine W.iload d7_121 (pc' := 123) rfl rfl ?_
          refine W.aloadN d7_123 (pc' := 124) rfl rfl rfl ?_
          refine W.getF 0 1 d7_124 (host := "") (Or.inl (wd hw 12 rfl)) Via.refl rfl rfl (pc' := 127) rfl ?_
          refine W.iload d7_127 (pc' := 129) rfl rfl ?_
          refine W.laload 2 c (x := (own_ky E c).2) d7_129 rfl (own_nn (by omega)) (own_tn (by omega)) (own_l2 (by omega)) (pc' := 130) rfl ?_
          refine W.lastore ((q, (ShLQ Z (.ref lv) (.ref tp) (.int (Int32.ofNat m)))) :: (lv, (LA Z ((E.map Prod.fst).set p (own_ky E c).1))) :: (tp, (LA Z ((E.map Prod.snd).set p (own_ky E c).2))) :: F) 2 p d7_130 rfl (own_nn hp) (own_tn hp) (by rw [List.length_map]; omega) rfl (pc' := 131) rfl ?_
          refine W.iload d7_131 (pc' := 133) rfl rfl ?_
          refine W.istore #[.val (.ref q), .val (.long (own_ky E0 m).1), .second, .val (.long (own_ky E0 m).2), .second, .val (.int (Int32.ofNat c)), .val (.int (Int32.ofNat c))] d7_133 (pc' := 135) rfl rfl ?_
          refine W.goto d7_135 (pc' := 33) (by decide) rfl ?_
          have hq9 := ih c (E.set p (own_ky E c)) (.val (.int (Int32.ofNat c))) (by omega) (Or.inr ⟨_, rfl⟩) (by rw [List.length_set]; exact hl) (by omega) (own_dn_step (by omega) (by omega) hc hcp hc0 c4 hmin hd) (pm.trans ((own_swap (by omega) (by omega) hc (by omega)).symm.cons _))
          rw [List.map_set, List.map_set] at hq9
          exact hq9
        · refine W.ifN d7_97 (XT.ll_lt_f c4) (pc' := 100) rfl ?_
          refine W.goto d7_100 (pc' := 138) (by decide) rfl ?_
          exact remFin l Z n0 a0 hw F q lv tp E0 m hm E p _ hl hp (own_dn_end (by omega) (by omega) (fun i h0 hi hip => Int64.le_trans (Int64.not_lt.mp c4) (hmin i h0 hi hip)) hd) pm
      refine W.iload d7_54 (pc' := 56) rfl rfl ?_
      refine W.iconst (1 : Int32) d7_56 (pc' := 57) rfl rfl ?_
      refine W.iadd d7_57 (pc' := 58) rfl ?_
      refine W.topI (Int32.ofNat (2 * p + 2)) (own_ch2 hp) ?_
      refine W.aloadN d7_58 (pc' := 59) rfl rfl rfl ?_
      refine W.getF 0 2 d7_59 (host := "") (Or.inl (wd hw 19 rfl)) Via.refl rfl rfl (pc' := 62) rfl ?_
      by_cases c2 : 2 * p + 2 < m
      · refine W.icmpN d7_62 (XT.ii_ge_f ((own_lt (by omega) (by omega)).mpr c2)) (pc' := 65) rfl ?_
        refine W.aloadN d7_65 (pc' := 66) rfl rfl rfl ?_
        refine W.getF 0 0 d7_66 (host := "") (Or.inl (wd hw 10 rfl)) Via.refl rfl rfl (pc' := 69) rfl ?_
        refine W.iload d7_69 (pc' := 71) rfl rfl ?_
        refine W.iconst (1 : Int32) d7_71 (pc' := 72) rfl rfl ?_
        refine W.iadd d7_72 (pc' := 73) rfl ?_
        refine W.topI (Int32.ofNat (2 * p + 2)) (own_ch2 hp) ?_
        refine W.laload 1 (2 * p + 2) (x := (own_ky E (2 * p + 2)).1) d7_73 rfl (own_nn (by omega)) (own_tn (by omega)) (own_l1 (by omega)) (pc' := 74) rfl ?_
        refine W.aloadN d7_74 (pc' := 75) rfl rfl rfl ?_
        refine W.getF 0 0 d7_75 (host := "") (Or.inl (wd hw 10 rfl)) Via.refl rfl rfl (pc' := 78) rfl ?_
        refine W.iload d7_78 (pc' := 80) rfl rfl ?_
        refine W.laload 1 (2 * p + 1) (x := (own_ky E (2 * p + 1)).1) d7_80 rfl (own_nn (by omega)) (own_tn (by omega)) (own_l1 (by omega)) (pc' := 81) rfl ?_
        refine W.lcmp d7_81 (pc' := 82) rfl ?_
        by_cases c3 : (own_ky E (2 * p + 2)).1 < (own_ky E (2 * p + 1)).1
        · refine W.ifN d7_82 (XT.ll_ge_f c3) (pc' := 85) rfl ?_
          have hq9 := j88 (2 * p + 2) c2 (by omega) (by omega) (fun i h0 hi hip => by
            rcases (by omega : i = 2 * p + 1 ∨ i = 2 * p + 2) with rfl | rfl
            · exact Int64.le_of_lt c3
            · exact Int64.le_refl _)
          rw [← own_ch2 hp] at hq9
          refine W.iinc #[.val (.ref q), .val (.long (own_ky E0 m).1), .second, .val (.long (own_ky E0 m).2), .second, .val (.int (Int32.ofNat p)), .val (.int ((Int32.ofNat (2 * p + 1)) + (1 : Int32)))] (1 : Int32) ((Int32.ofNat (2 * p + 1)) + (1 : Int32)) d7_85 (pc' := 88) rfl rfl rfl rfl rfl ?_
          exact hq9
        · refine W.ifY d7_82 (XT.ll_ge_t c3) (by decide) (pc' := 88) rfl ?_
          exact j88 (2 * p + 1) c0 (by omega) (by omega) (fun i h0 hi hip => by
            rcases (by omega : i = 2 * p + 1 ∨ i = 2 * p + 2) with rfl | rfl
            · exact Int64.le_refl _
            · exact Int64.not_lt.mp c3)
      · refine W.icmpY d7_62 (XT.ii_ge_t (fun z => c2 ((own_lt (by omega) (by omega)).mp z))) (by decide) (pc' := 88) rfl ?_
        exact j88 (2 * p + 1) c0 (by omega) (by omega) (fun i h0 hi hip => by have e9 : i = 2 * p + 1 := (by omega); rw [e9]; exact Int64.le_refl _)
    · refine W.icmpY d7_43 (XT.ii_ge_t (fun z => c0 ((own_lt (by omega) (by omega)).mp z))) (by decide) (pc' := 138) rfl ?_
      exact remFin l Z n0 a0 hw F q lv tp E0 m hm E p s6 hl hp (own_dn_end (by omega) (by omega) (fun i h0 hi hip => by omega) hd) pm
theorem pn_mRemove : plainFor (⟨"com/example/mendb/mendb/LevelQueue", "remove", "()V"⟩ : MethodName) = true := by first | (refine plainFor_of_name ?_; simp [plainName, overriddenIn]; done) | (refine plainFor_of_name ?_; decide +kernel) | decide +kernel
set_option maxRecDepth 65536 in
set_option maxHeartbeats 40000000 in
theorem mRemove (l : Launch) (Z : State) (n0 : Nat) (a0 : Array Value) (hw : ∀ d ∈ tables_1, d.before a0 Z = true) (F : Asn) (q lv tp : Addr) (E0 : List Ent) (m : Nat) (hm : m < 16) (hl : E0.length = 16) (hh : own_hp E0 (m + 1)) : Sp l Z n0 (⟨"com/example/mendb/mendb/LevelQueue", "remove", "()V"⟩ : MethodName) prog_47_method_8_code 7 none ({ frames := 0, cells := 0, slots := 0, locals := 0 } : Room) [(.ref q)] ((q, (ShLQ Z (.ref lv) (.ref tp) (.int (Int32.ofNat (m + 1))))) :: (lv, (LA Z (E0.map Prod.fst))) :: (tp, (LA Z (E0.map Prod.snd))) :: F) (fun v σ' => v = none ∧ ∃ E' : List Ent, E'.length = 16 ∧ own_hp E' m ∧ (E0.take (m + 1)).Perm (own_ky E0 0 :: E'.take m) ∧ σ' = (q, ShLQ Z (.ref lv) (.ref tp) (.int (Int32.ofNat m))) :: (lv, LA Z (E'.map Prod.fst)) :: (tp, LA Z (E'.map Prod.snd)) :: F) := by
  refine Sp.of (ls := #[.val (.ref q), .unset, .unset, .unset, .unset, .unset, .unset]) pn_mRemove (fun m => by first | (simp [entryFrame, mkF, argsToLocals, Value.category]; done) | rfl) ?_
  show W _ _ _ _ _ _ 0 0 ((q, (ShLQ Z (.ref lv) (.ref tp) (.int (Int32.ofNat (m + 1))))) :: (lv, (LA Z (E0.map Prod.fst))) :: (tp, (LA Z (E0.map Prod.snd))) :: F) 0 #[.val (.ref q), .unset, .unset, .unset, .unset, .unset, .unset] []
  refine W.aloadN d7_0 (pc' := 1) rfl rfl rfl ?_
  refine W.dup d7_1 (pc' := 2) rfl rfl ?_
  refine W.getF 0 2 d7_2 (host := "") (Or.inl (wd hw 19 rfl)) Via.refl rfl rfl (pc' := 5) rfl ?_
  refine W.iconst (1 : Int32) d7_5 (pc' := 6) rfl rfl ?_
  refine W.isub d7_6 (pc' := 7) rfl ?_
  refine W.topI (Int32.ofNat m) (own_pred hm) ?_
  refine W.putF ((q, (ShLQ Z (.ref lv) (.ref tp) (.int (Int32.ofNat m)))) :: (lv, (LA Z (E0.map Prod.fst))) :: (tp, (LA Z (E0.map Prod.snd))) :: F) 0 2 d7_7 (host := "") (Or.inl (wd hw 19 rfl)) Via.refl (Or.inl (wd hw 20 rfl)) (wd hw 2 rfl) (ty := .int) (by decide) rfl rfl rfl rfl rfl (pc' := 10) rfl ?_
  refine W.aloadN d7_10 (pc' := 11) rfl rfl rfl ?_
  refine W.getF 0 0 d7_11 (host := "") (Or.inl (wd hw 10 rfl)) Via.refl rfl rfl (pc' := 14) rfl ?_
  refine W.aloadN d7_14 (pc' := 15) rfl rfl rfl ?_
  refine W.getF 0 2 d7_15 (host := "") (Or.inl (wd hw 19 rfl)) Via.refl rfl rfl (pc' := 18) rfl ?_
  refine W.laload 1 m (x := (own_ky E0 m).1) d7_18 rfl (own_nn hm) (own_tn hm) (own_l1 (by omega)) (pc' := 19) rfl ?_
  refine W.lstoreN #[.val (.ref q), .val (.long (own_ky E0 m).1), .second, .unset, .unset, .unset, .unset] d7_19 (pc' := 20) rfl rfl ?_
  refine W.aloadN d7_20 (pc' := 21) rfl rfl rfl ?_
  refine W.getF 0 1 d7_21 (host := "") (Or.inl (wd hw 12 rfl)) Via.refl rfl rfl (pc' := 24) rfl ?_
  refine W.aloadN d7_24 (pc' := 25) rfl rfl rfl ?_
  refine W.getF 0 2 d7_25 (host := "") (Or.inl (wd hw 19 rfl)) Via.refl rfl rfl (pc' := 28) rfl ?_
  refine W.laload 2 m (x := (own_ky E0 m).2) d7_28 rfl (own_nn hm) (own_tn hm) (own_l2 (by omega)) (pc' := 29) rfl ?_
  refine W.lstoreN #[.val (.ref q), .val (.long (own_ky E0 m).1), .second, .val (.long (own_ky E0 m).2), .second, .unset, .unset] d7_29 (pc' := 30) rfl rfl ?_
  refine W.iconst (0 : Int32) d7_30 (pc' := 31) rfl rfl ?_
  refine W.istore #[.val (.ref q), .val (.long (own_ky E0 m).1), .second, .val (.long (own_ky E0 m).2), .second, .val (.int (0 : Int32)), .unset] d7_31 (pc' := 33) rfl rfl ?_
  exact remLoop l Z n0 a0 hw F q lv tp E0 m hm m 0 E0 _ (by omega) (Or.inl rfl) hl (by omega) (own_dn_start (by omega) hh) (own_take_last (by omega))
theorem pn_mTake : plainFor (⟨"com/example/mendb/mendb/LevelQueueRemovePinLaw", "take", "(Lcom/example/mendb/mendb/LevelQueue;[J[J)Z"⟩ : MethodName) = true := by first | (refine plainFor_of_name ?_; simp [plainName, overriddenIn]; done) | (refine plainFor_of_name ?_; decide +kernel) | decide +kernel
set_option maxRecDepth 65536 in
set_option maxHeartbeats 40000000 in
theorem mTake (l : Launch) (Z : State) (n0 : Nat) (a0 : Array Value) (hw : ∀ d ∈ tables_1, d.before a0 Z = true) (F : Asn) (q lv tp sa la : Addr) (E : List Ent) (m D : Nat) (lvs : List Int64) (s0 s2 : Int64) (hm : m < 6) (hD : D < 64) (hll : lvs.length = 6) (hl : E.length = 16) (hh : own_hp E (m + 1)) (hp : (E.take (m + 1)).Perm ((own_K D).map (own_ent lvs))) (hs : s2 = 0 ∨ ∀ e ∈ E.take (m + 1), s0 ≤ e.1) : Sp l Z n0 (⟨"com/example/mendb/mendb/LevelQueueRemovePinLaw", "take", "(Lcom/example/mendb/mendb/LevelQueue;[J[J)Z"⟩ : MethodName) method_2_code 6 (some .boolean) ({ frames := 1, cells := 0, slots := 0, locals := 18 } : Room) [(.ref q), (.ref la), (.ref sa)] ((q, (ShLQ Z (.ref lv) (.ref tp) (.int (Int32.ofNat (m + 1))))) :: (lv, (LA Z (E.map Prod.fst))) :: (tp, (LA Z (E.map Prod.snd))) :: (sa, (LA Z [s0, (Int64.ofNat D), s2])) :: (la, (LA Z lvs)) :: F) (fun v σ' => v = some (.int 1) ∧ ∃ (k : Nat) (E' : List Ent), k ∈ own_K D ∧ E'.length = 16 ∧ own_hp E' m ∧ (E'.take m).Perm ((own_K (D ||| 1 <<< k)).map (own_ent lvs)) ∧ (∀ e ∈ E'.take m, (own_ky E 0).1 ≤ e.1) ∧ σ' = (q, ShLQ Z (.ref lv) (.ref tp) (.int (Int32.ofNat m))) :: (lv, LA Z (E'.map Prod.fst)) :: (tp, LA Z (E'.map Prod.snd)) :: (sa, LA Z [(own_ky E 0).1, Int64.ofNat (D ||| 1 <<< k), 1]) :: (la, LA Z lvs) :: F) := by
  refine Sp.of (ls := #[.val (.ref q), .val (.ref la), .val (.ref sa), .unset, .unset, .unset]) pn_mTake (fun m => by first | (simp [entryFrame, mkF, argsToLocals, Value.category]; done) | rfl) ?_
  show W _ _ _ _ _ _ 0 0 ((q, (ShLQ Z (.ref lv) (.ref tp) (.int (Int32.ofNat (m + 1))))) :: (lv, (LA Z (E.map Prod.fst))) :: (tp, (LA Z (E.map Prod.snd))) :: (sa, (LA Z [s0, (Int64.ofNat D), s2])) :: (la, (LA Z lvs)) :: F) 0 #[.val (.ref q), .val (.ref la), .val (.ref sa), .unset, .unset, .unset] []
  obtain ⟨k, hk, he⟩ := own_first hl hm hp
  have hk6 := (own_K_mem hk).1
  have e1 : (own_ky E 0).1 = lvs.getD k 0 := by rw [he]; rfl
  have e2 : (XT.ushrL (own_ky E 0).2 32).toInt32 = Int32.ofNat k := by rw [he]; exact own_sto hk6
  refine W.aloadN d4_0 (pc' := 1) rfl rfl rfl ?_
  refine W.callV 0 rfl (mLevel l Z n0 a0 hw ((sa, LA Z [s0, (Int64.ofNat D), s2]) :: (la, LA Z lvs) :: F) q lv tp E (m + 1) hl) d4_1 (wd hw 25 rfl) (wd hw 26 rfl) (wd hw 28 rfl) (wd hw 27 rfl) (wd hw 3 rfl) (wd hw 29 rfl) rfl (by decide) pd0 rfl rfl (Nat.le_of_ble_eq_true rfl) (Nat.le_of_ble_eq_true rfl) (Nat.le_of_ble_eq_true rfl) (Nat.le_of_ble_eq_true rfl) rfl (pc' := 4) rfl ?_
  intro v9 s9 q9
  rw [q9.1, q9.2]
  clear q9 v9 s9
  show W _ _ _ _ _ _ 0 0 ((q, (ShLQ Z (.ref lv) (.ref tp) (.int (Int32.ofNat (m + 1))))) :: (lv, (LA Z (E.map Prod.fst))) :: (tp, (LA Z (E.map Prod.snd))) :: (sa, (LA Z [s0, (Int64.ofNat D), s2])) :: (la, (LA Z lvs)) :: F) 4 #[.val (.ref q), .val (.ref la), .val (.ref sa), .unset, .unset, .unset] [(.long (own_ky E 0).1)]
  refine W.lstoreN #[.val (.ref q), .val (.ref la), .val (.ref sa), .val (.long (own_ky E 0).1), .second, .unset] d4_4 (pc' := 5) rfl rfl ?_
  refine W.aloadN d4_5 (pc' := 6) rfl rfl rfl ?_
  refine W.callV 0 rfl (mStore l Z n0 a0 hw ((sa, LA Z [s0, (Int64.ofNat D), s2]) :: (la, LA Z lvs) :: F) q lv tp E (m + 1) hl) d4_6 (wd hw 30 rfl) (wd hw 31 rfl) (wd hw 33 rfl) (wd hw 32 rfl) (wd hw 3 rfl) (wd hw 34 rfl) rfl (by decide) pd1 rfl rfl (Nat.le_of_ble_eq_true rfl) (Nat.le_of_ble_eq_true rfl) (Nat.le_of_ble_eq_true rfl) (Nat.le_of_ble_eq_true rfl) rfl (pc' := 9) rfl ?_
  intro v9 s9 q9
  rw [q9.1, q9.2]
  clear q9 v9 s9
  show W _ _ _ _ _ _ 0 0 ((q, (ShLQ Z (.ref lv) (.ref tp) (.int (Int32.ofNat (m + 1))))) :: (lv, (LA Z (E.map Prod.fst))) :: (tp, (LA Z (E.map Prod.snd))) :: (sa, (LA Z [s0, (Int64.ofNat D), s2])) :: (la, (LA Z lvs)) :: F) 9 #[.val (.ref q), .val (.ref la), .val (.ref sa), .val (.long (own_ky E 0).1), .second, .unset] [(.int (XT.ushrL (own_ky E 0).2 32).toInt32)]
  refine W.topI (Int32.ofNat k) (e2) ?_
  refine W.istore #[.val (.ref q), .val (.ref la), .val (.ref sa), .val (.long (own_ky E 0).1), .second, .val (.int (Int32.ofNat k))] d4_9 (pc' := 11) rfl rfl ?_
  refine W.iload d4_11 (pc' := 13) rfl rfl ?_
  refine W.ifN d4_13 (XT.i0_lt_f (own_nn (by omega))) (pc' := 16) rfl ?_
  refine W.iload d4_16 (pc' := 18) rfl rfl ?_
  refine W.aloadN d4_18 (pc' := 19) rfl rfl rfl ?_
  refine W.lenJ 4 (6 : Int32) d4_19 rfl (by rw [hll]; rfl) (pc' := 20) rfl ?_
  refine W.icmpY d4_20 (XT.ii_lt_t ((own_lt (a := k) (b := 6) (by omega) (by omega)).mpr hk6)) (by decide) (pc' := 25) rfl ?_
  refine W.lloadN d4_25 (pc' := 26) rfl rfl ?_
  refine W.aloadN d4_26 (pc' := 27) rfl rfl rfl ?_
  refine W.iload d4_27 (pc' := 29) rfl rfl ?_
  refine W.laload 4 k (x := (lvs.getD k 0)) d4_29 rfl (own_nn (by omega)) (own_tn (by omega)) (by rw [List.getD_eq_getElem?_getD, List.getElem?_eq_getElem (by omega)]; rfl) (pc' := 30) rfl ?_
  refine W.lcmp d4_30 (pc' := 31) rfl ?_
  refine W.ifY d4_31 (XT.ll_eq_t e1) (by decide) (pc' := 36) rfl ?_
  refine W.aloadN d4_36 (pc' := 37) rfl rfl rfl ?_
  refine W.iconst (1 : Int32) d4_37 (pc' := 38) rfl rfl ?_
  refine W.laload 3 1 (x := (Int64.ofNat D)) d4_38 rfl (by decide) rfl rfl (pc' := 39) rfl ?_
  refine W.iload d4_39 (pc' := 41) rfl rfl ?_
  refine W.lushr d4_41 (pc' := 42) rfl ?_
  refine W.lconst (1 : Int64) d4_42 (pc' := 43) rfl rfl ?_
  refine W.land d4_43 (pc' := 44) rfl ?_
  refine W.lconst (0 : Int64) d4_44 (pc' := 45) rfl rfl ?_
  refine W.lcmp d4_45 (pc' := 46) rfl ?_
  refine W.ifY d4_46 (XT.ll_eq_t (own_bit hD hk)) (by decide) (pc' := 51) rfl ?_
  refine W.aloadN d4_51 (pc' := 52) rfl rfl rfl ?_
  refine W.iconst (2 : Int32) d4_52 (pc' := 53) rfl rfl ?_
  refine W.laload 3 2 (x := s2) d4_53 rfl (by decide) rfl rfl (pc' := 54) rfl ?_
  refine W.lconst (0 : Int64) d4_54 (pc' := 55) rfl rfl ?_
  refine W.lcmp d4_55 (pc' := 56) rfl ?_
  have j69 : W l Z n0 ("com/example/mendb/mendb/LevelQueueRemovePinLaw", "take", method_2_code, 6, (some .boolean)) ({ frames := 1, cells := 0, slots := 0, locals := 18 } : Room) (fun v σ' => v = some (.int 1) ∧ ∃ (k : Nat) (E' : List Ent), k ∈ own_K D ∧ E'.length = 16 ∧ own_hp E' m ∧ (E'.take m).Perm ((own_K (D ||| 1 <<< k)).map (own_ent lvs)) ∧ (∀ e ∈ E'.take m, (own_ky E 0).1 ≤ e.1) ∧ σ' = (q, ShLQ Z (.ref lv) (.ref tp) (.int (Int32.ofNat m))) :: (lv, LA Z (E'.map Prod.fst)) :: (tp, LA Z (E'.map Prod.snd)) :: (sa, LA Z [(own_ky E 0).1, Int64.ofNat (D ||| 1 <<< k), 1]) :: (la, LA Z lvs) :: F) 0 0 ((q, (ShLQ Z (.ref lv) (.ref tp) (.int (Int32.ofNat (m + 1))))) :: (lv, (LA Z (E.map Prod.fst))) :: (tp, (LA Z (E.map Prod.snd))) :: (sa, (LA Z [s0, (Int64.ofNat D), s2])) :: (la, (LA Z lvs)) :: F) 69 #[.val (.ref q), .val (.ref la), .val (.ref sa), .val (.long (own_ky E 0).1), .second, .val (.int (Int32.ofNat k))] [] := by
    refine W.aloadN d4_69 (pc' := 70) rfl rfl rfl ?_
    refine W.iconst (0 : Int32) d4_70 (pc' := 71) rfl rfl ?_
    refine W.lloadN d4_71 (pc' := 72) rfl rfl ?_
    refine W.lastore ((q, (ShLQ Z (.ref lv) (.ref tp) (.int (Int32.ofNat (m + 1))))) :: (lv, (LA Z (E.map Prod.fst))) :: (tp, (LA Z (E.map Prod.snd))) :: (sa, (LA Z [(own_ky E 0).1, (Int64.ofNat D), s2])) :: (la, (LA Z lvs)) :: F) 3 0 d4_72 rfl (by decide) rfl (Nat.le_of_ble_eq_true rfl) rfl (pc' := 73) rfl ?_
    refine W.aloadN d4_73 (pc' := 74) rfl rfl rfl ?_
    refine W.iconst (1 : Int32) d4_74 (pc' := 75) rfl rfl ?_
    refine W.aloadN d4_75 (pc' := 76) rfl rfl rfl ?_
    refine W.iconst (1 : Int32) d4_76 (pc' := 77) rfl rfl ?_
    refine W.laload 3 1 (x := (Int64.ofNat D)) d4_77 rfl (by decide) rfl rfl (pc' := 78) rfl ?_
    refine W.lconst (1 : Int64) d4_78 (pc' := 79) rfl rfl ?_
    refine W.iload d4_79 (pc' := 81) rfl rfl ?_
    refine W.lshl d4_81 (pc' := 82) rfl ?_
    refine W.lor d4_82 (pc' := 83) rfl ?_
    refine W.topJ (Int64.ofNat (D ||| 1 <<< k)) (own_or hD hk6) ?_
    refine W.lastore ((q, (ShLQ Z (.ref lv) (.ref tp) (.int (Int32.ofNat (m + 1))))) :: (lv, (LA Z (E.map Prod.fst))) :: (tp, (LA Z (E.map Prod.snd))) :: (sa, (LA Z [(own_ky E 0).1, (Int64.ofNat (D ||| 1 <<< k)), s2])) :: (la, (LA Z lvs)) :: F) 3 1 d4_83 rfl (by decide) rfl (Nat.le_of_ble_eq_true rfl) rfl (pc' := 84) rfl ?_
    refine W.aloadN d4_84 (pc' := 85) rfl rfl rfl ?_
    refine W.iconst (2 : Int32) d4_85 (pc' := 86) rfl rfl ?_
    refine W.lconst (1 : Int64) d4_86 (pc' := 87) rfl rfl ?_
    refine W.lastore ((q, (ShLQ Z (.ref lv) (.ref tp) (.int (Int32.ofNat (m + 1))))) :: (lv, (LA Z (E.map Prod.fst))) :: (tp, (LA Z (E.map Prod.snd))) :: (sa, (LA Z [(own_ky E 0).1, (Int64.ofNat (D ||| 1 <<< k)), (1 : Int64)])) :: (la, (LA Z lvs)) :: F) 3 2 d4_87 rfl (by decide) rfl (Nat.le_of_ble_eq_true rfl) rfl (pc' := 88) rfl ?_
    refine W.aloadN d4_88 (pc' := 89) rfl rfl rfl ?_
    refine W.callV 0 rfl (mRemove l Z n0 a0 hw ((sa, LA Z [(own_ky E 0).1, (Int64.ofNat (D ||| 1 <<< k)), (1 : Int64)]) :: (la, LA Z lvs) :: F) q lv tp E m (by omega) hl hh) d4_89 (wd hw 35 rfl) (wd hw 36 rfl) (wd hw 38 rfl) (wd hw 37 rfl) (wd hw 3 rfl) (wd hw 39 rfl) rfl (by decide) pd2 rfl rfl (Nat.le_of_ble_eq_true rfl) (Nat.le_of_ble_eq_true rfl) (Nat.le_of_ble_eq_true rfl) (Nat.le_of_ble_eq_true rfl) rfl (pc' := 92) rfl ?_
    rintro _ _ ⟨rfl, E', hl', hh', pm', rfl⟩
    show W _ _ _ _ _ _ 0 0 ((q, (ShLQ Z (.ref lv) (.ref tp) (.int (Int32.ofNat m)))) :: (lv, (LA Z (E'.map Prod.fst))) :: (tp, (LA Z (E'.map Prod.snd))) :: (sa, (LA Z [(own_ky E 0).1, (Int64.ofNat (D ||| 1 <<< k)), (1 : Int64)])) :: (la, (LA Z lvs)) :: F) 92 #[.val (.ref q), .val (.ref la), .val (.ref sa), .val (.long (own_ky E 0).1), .second, .val (.int (Int32.ofNat k))] []
    refine W.iconst (1 : Int32) d4_92 (pc' := 93) rfl rfl ?_
    exact W.retN (t := .boolean) 1 d4_93 rfl (by simp) rfl (by decide) (by decide) ⟨rfl, k, E', hk, hl', hh', own_next hD hk he hp pm', own_least hl hm hh pm', rfl⟩
  by_cases c1 : s2 = (0 : Int64)
  · refine W.ifY d4_56 (XT.ll_eq_t c1) (by decide) (pc' := 69) rfl ?_
    exact j69
  · refine W.ifN d4_56 (XT.ll_eq_f c1) (pc' := 59) rfl ?_
    refine W.lloadN d4_59 (pc' := 60) rfl rfl ?_
    refine W.aloadN d4_60 (pc' := 61) rfl rfl rfl ?_
    refine W.iconst (0 : Int32) d4_61 (pc' := 62) rfl rfl ?_
    refine W.laload 3 0 (x := s0) d4_62 rfl (by decide) rfl rfl (pc' := 63) rfl ?_
    refine W.lcmp d4_63 (pc' := 64) rfl ?_
    refine W.ifY d4_64 (XT.ll_ge_t (fun z => absurd z (Int64.not_lt.mpr ((hs.resolve_left c1) _ (List.mem_of_getElem? (i := 0) (by rw [List.getElem?_take, if_pos (by omega)]; exact own_ky_some (by omega))))))) (by decide) (pc' := 69) rfl ?_
    exact j69
theorem pn_m0 : plainFor x = true := by first | (refine plainFor_of_name ?_; simp [plainName, overriddenIn]; done) | (refine plainFor_of_name ?_; decide +kernel) | decide +kernel
set_option maxRecDepth 65536 in
set_option maxHeartbeats 40000000 in
theorem m0 (l : Launch) (Z : State) (n0 : Nat) (a0 : Array Value) (hw : ∀ d ∈ tables_1, d.before a0 Z = true) (a b c d e f : Int64) : Sp l Z n0 x code maxLocals ret room_1 [(.long a), (.long b), (.long c), (.long d), (.long e), (.long f)] [] (fun v _ => v = some (.int 1)) := by
  refine Sp.of (ls := #[.val (.long a), .second, .val (.long b), .second, .val (.long c), .second, .val (.long d), .second, .val (.long e), .second, .val (.long f), .second, .unset, .unset, .unset]) pn_m0 (fun m => by first | (simp [entryFrame, mkF, argsToLocals, Value.category, maxLocals]; done) | rfl) ?_
  show W _ _ _ _ _ _ 0 0 [] 0 #[.val (.long a), .second, .val (.long b), .second, .val (.long c), .second, .val (.long d), .second, .val (.long e), .second, .val (.long f), .second, .unset, .unset, .unset] []
  refine W.bipush (6 : Int32) at_0 (pc' := 2) rfl rfl ?_
  refine W.newJ 6 6 at_2 (wd hw 0 rfl) (by decide) rfl (by decide) (by decide) (by decide) (by decide) (pc' := 4) rfl ?_
  intro la
  show W _ _ _ _ _ _ 1 6 [(la, (LA Z [0, 0, 0, 0, 0, 0]))] 4 #[.val (.long a), .second, .val (.long b), .second, .val (.long c), .second, .val (.long d), .second, .val (.long e), .second, .val (.long f), .second, .unset, .unset, .unset] [(.ref la)]
  refine W.dup at_4 (pc' := 5) rfl rfl ?_
  refine W.iconst (0 : Int32) at_5 (pc' := 6) rfl rfl ?_
  refine W.lloadN at_6 (pc' := 7) rfl rfl ?_
  refine W.lastore [(la, (LA Z [a, 0, 0, 0, 0, 0]))] 0 0 at_7 rfl (by decide) rfl (Nat.le_of_ble_eq_true rfl) rfl (pc' := 8) rfl ?_
  refine W.dup at_8 (pc' := 9) rfl rfl ?_
  refine W.iconst (1 : Int32) at_9 (pc' := 10) rfl rfl ?_
  refine W.lloadN at_10 (pc' := 11) rfl rfl ?_
  refine W.lastore [(la, (LA Z [a, b, 0, 0, 0, 0]))] 0 1 at_11 rfl (by decide) rfl (Nat.le_of_ble_eq_true rfl) rfl (pc' := 12) rfl ?_
  refine W.dup at_12 (pc' := 13) rfl rfl ?_
  refine W.iconst (2 : Int32) at_13 (pc' := 14) rfl rfl ?_
  refine W.lload at_14 (pc' := 16) rfl rfl ?_
  refine W.lastore [(la, (LA Z [a, b, c, 0, 0, 0]))] 0 2 at_16 rfl (by decide) rfl (Nat.le_of_ble_eq_true rfl) rfl (pc' := 17) rfl ?_
  refine W.dup at_17 (pc' := 18) rfl rfl ?_
  refine W.iconst (3 : Int32) at_18 (pc' := 19) rfl rfl ?_
  refine W.lload at_19 (pc' := 21) rfl rfl ?_
  refine W.lastore [(la, (LA Z [a, b, c, d, 0, 0]))] 0 3 at_21 rfl (by decide) rfl (Nat.le_of_ble_eq_true rfl) rfl (pc' := 22) rfl ?_
  refine W.dup at_22 (pc' := 23) rfl rfl ?_
  refine W.iconst (4 : Int32) at_23 (pc' := 24) rfl rfl ?_
  refine W.lload at_24 (pc' := 26) rfl rfl ?_
  refine W.lastore [(la, (LA Z [a, b, c, d, e, 0]))] 0 4 at_26 rfl (by decide) rfl (Nat.le_of_ble_eq_true rfl) rfl (pc' := 27) rfl ?_
  refine W.dup at_27 (pc' := 28) rfl rfl ?_
  refine W.iconst (5 : Int32) at_28 (pc' := 29) rfl rfl ?_
  refine W.lload at_29 (pc' := 31) rfl rfl ?_
  refine W.lastore [(la, (LA Z [a, b, c, d, e, f]))] 0 5 at_31 rfl (by decide) rfl (Nat.le_of_ble_eq_true rfl) rfl (pc' := 32) rfl ?_
  refine W.astore #[.val (.long a), .second, .val (.long b), .second, .val (.long c), .second, .val (.long d), .second, .val (.long e), .second, .val (.long f), .second, .val (.ref la), .unset, .unset] at_32 (pc' := 34) rfl rfl rfl ?_
  refine W.iconst (3 : Int32) at_34 (pc' := 35) rfl rfl ?_
  refine W.newJ 3 3 at_35 (wd hw 0 rfl) (by decide) rfl (by decide) (by decide) (by decide) (by decide) (pc' := 37) rfl ?_
  intro sa
  show W _ _ _ _ _ _ 2 9 [(sa, (LA Z [0, 0, 0])), (la, (LA Z [a, b, c, d, e, f]))] 37 #[.val (.long a), .second, .val (.long b), .second, .val (.long c), .second, .val (.long d), .second, .val (.long e), .second, .val (.long f), .second, .val (.ref la), .unset, .unset] [(.ref sa)]
  refine W.astore #[.val (.long a), .second, .val (.long b), .second, .val (.long c), .second, .val (.long d), .second, .val (.long e), .second, .val (.long f), .second, .val (.ref la), .val (.ref sa), .unset] at_37 (pc' := 39) rfl rfl rfl ?_
  refine W.new [("com/example/mendb/mendb/LevelQueue", "levels", "[J", .null), ("com/example/mendb/mendb/LevelQueue", "tuples", "[J", .null), ("com/example/mendb/mendb/LevelQueue", "size", "I", (.int (0 : Int32)))] at_39 (wd hw 1 rfl) (wd hw 2 rfl) (wd hw 3 rfl) ⟨⟨Or.inl (wd hw 11 rfl), (.array .long), by decide, rfl⟩, ⟨Or.inl (wd hw 13 rfl), (.array .long), by decide, rfl⟩, ⟨Or.inl (wd hw 20 rfl), .int, by decide, rfl⟩, trivial⟩ (by decide) (by decide) (by decide) (pc' := 42) rfl ?_
  intro q
  show W _ _ _ _ _ _ 3 12 [(q, (ShLQ Z .null .null (.int (0 : Int32)))), (sa, (LA Z [0, 0, 0])), (la, (LA Z [a, b, c, d, e, f]))] 42 #[.val (.long a), .second, .val (.long b), .second, .val (.long c), .second, .val (.long d), .second, .val (.long e), .second, .val (.long f), .second, .val (.ref la), .val (.ref sa), .unset] [(.ref q)]
  refine W.dup at_42 (pc' := 43) rfl rfl ?_
  refine W.callI (mInit l Z n0 a0 hw [(sa, (LA Z [0, 0, 0])), (la, (LA Z [a, b, c, d, e, f]))] q) at_43 rfl (wd hw 4 rfl) (wd hw 5 rfl) (wd hw 3 rfl) (wd hw 6 rfl) (by decide) pd2 rfl rfl (Nat.le_of_ble_eq_true rfl) (Nat.le_of_ble_eq_true rfl) (Nat.le_of_ble_eq_true rfl) (Nat.le_of_ble_eq_true rfl) rfl (pc' := 46) rfl ?_
  rintro _ _ ⟨rfl, lv, tp, rfl⟩
  show W _ _ _ _ _ _ 5 44 [(q, (ShLQ Z (.ref lv) (.ref tp) (.int (0 : Int32)))), (lv, (LA Z (List.replicate 16 0))), (tp, (LA Z (List.replicate 16 0))), (sa, (LA Z [0, 0, 0])), (la, (LA Z [a, b, c, d, e, f]))] 46 #[.val (.long a), .second, .val (.long b), .second, .val (.long c), .second, .val (.long d), .second, .val (.long e), .second, .val (.long f), .second, .val (.ref la), .val (.ref sa), .unset] [(.ref q)]
  show W _ _ _ _ _ _ 5 44 [(q, (ShLQ Z (.ref lv) (.ref tp) (.int (Int32.ofNat 0)))), (lv, (LA Z ((List.replicate 16 ((0, 0) : Ent)).map Prod.fst))), (tp, (LA Z ((List.replicate 16 ((0, 0) : Ent)).map Prod.snd))), (sa, (LA Z [0, 0, 0])), (la, (LA Z [a, b, c, d, e, f]))] 46 #[.val (.long a), .second, .val (.long b), .second, .val (.long c), .second, .val (.long d), .second, .val (.long e), .second, .val (.long f), .second, .val (.ref la), .val (.ref sa), .unset] [(.ref q)]
  refine W.astore #[.val (.long a), .second, .val (.long b), .second, .val (.long c), .second, .val (.long d), .second, .val (.long e), .second, .val (.long f), .second, .val (.ref la), .val (.ref sa), .val (.ref q)] at_46 (pc' := 48) rfl rfl rfl ?_
  refine W.aload at_48 (pc' := 50) rfl rfl rfl ?_
  refine W.lloadN at_50 (pc' := 51) rfl rfl ?_
  refine W.iconst (0 : Int32) at_51 (pc' := 52) rfl rfl ?_
  refine W.iconst (0 : Int32) at_52 (pc' := 53) rfl rfl ?_
  refine W.callV 0 rfl (mAdd l Z n0 a0 hw [(sa, (LA Z [0, 0, 0])), (la, (LA Z [a, b, c, d, e, f]))] q lv tp (List.replicate 16 ((0, 0) : Ent)) 0 a 0 0 (by decide) (by decide) (fun i h0 hi => by omega)) at_53 (wd hw 14 rfl) (wd hw 15 rfl) (wd hw 17 rfl) (wd hw 16 rfl) (wd hw 3 rfl) (wd hw 18 rfl) rfl (by decide) pd3 rfl rfl (Nat.le_of_ble_eq_true rfl) (Nat.le_of_ble_eq_true rfl) (Nat.le_of_ble_eq_true rfl) (Nat.le_of_ble_eq_true rfl) rfl (pc' := 56) rfl ?_
  rintro _ _ ⟨rfl, E1, hl1, hh1, pm1, rfl⟩
  show W _ _ _ _ _ _ 5 44 [(q, (ShLQ Z (.ref lv) (.ref tp) (.int (Int32.ofNat 1)))), (lv, (LA Z (E1.map Prod.fst))), (tp, (LA Z (E1.map Prod.snd))), (sa, (LA Z [0, 0, 0])), (la, (LA Z [a, b, c, d, e, f]))] 56 #[.val (.long a), .second, .val (.long b), .second, .val (.long c), .second, .val (.long d), .second, .val (.long e), .second, .val (.long f), .second, .val (.ref la), .val (.ref sa), .val (.ref q)] []
  refine W.aload at_56 (pc' := 58) rfl rfl rfl ?_
  refine W.lloadN at_58 (pc' := 59) rfl rfl ?_
  refine W.iconst (1 : Int32) at_59 (pc' := 60) rfl rfl ?_
  refine W.iconst (1 : Int32) at_60 (pc' := 61) rfl rfl ?_
  refine W.callV 0 rfl (mAdd l Z n0 a0 hw [(sa, (LA Z [0, 0, 0])), (la, (LA Z [a, b, c, d, e, f]))] q lv tp E1 1 b 1 1 (by decide) hl1 hh1) at_61 (wd hw 14 rfl) (wd hw 15 rfl) (wd hw 17 rfl) (wd hw 16 rfl) (wd hw 3 rfl) (wd hw 18 rfl) rfl (by decide) pd3 rfl rfl (Nat.le_of_ble_eq_true rfl) (Nat.le_of_ble_eq_true rfl) (Nat.le_of_ble_eq_true rfl) (Nat.le_of_ble_eq_true rfl) rfl (pc' := 64) rfl ?_
  rintro _ _ ⟨rfl, E2, hl2, hh2, pm2, rfl⟩
  show W _ _ _ _ _ _ 5 44 [(q, (ShLQ Z (.ref lv) (.ref tp) (.int (Int32.ofNat 2)))), (lv, (LA Z (E2.map Prod.fst))), (tp, (LA Z (E2.map Prod.snd))), (sa, (LA Z [0, 0, 0])), (la, (LA Z [a, b, c, d, e, f]))] 64 #[.val (.long a), .second, .val (.long b), .second, .val (.long c), .second, .val (.long d), .second, .val (.long e), .second, .val (.long f), .second, .val (.ref la), .val (.ref sa), .val (.ref q)] []
  refine W.aload at_64 (pc' := 66) rfl rfl rfl ?_
  refine W.lload at_66 (pc' := 68) rfl rfl ?_
  refine W.iconst (2 : Int32) at_68 (pc' := 69) rfl rfl ?_
  refine W.iconst (2 : Int32) at_69 (pc' := 70) rfl rfl ?_
  refine W.callV 0 rfl (mAdd l Z n0 a0 hw [(sa, (LA Z [0, 0, 0])), (la, (LA Z [a, b, c, d, e, f]))] q lv tp E2 2 c 2 2 (by decide) hl2 hh2) at_70 (wd hw 14 rfl) (wd hw 15 rfl) (wd hw 17 rfl) (wd hw 16 rfl) (wd hw 3 rfl) (wd hw 18 rfl) rfl (by decide) pd3 rfl rfl (Nat.le_of_ble_eq_true rfl) (Nat.le_of_ble_eq_true rfl) (Nat.le_of_ble_eq_true rfl) (Nat.le_of_ble_eq_true rfl) rfl (pc' := 73) rfl ?_
  rintro _ _ ⟨rfl, E3, hl3, hh3, pm3, rfl⟩
  show W _ _ _ _ _ _ 5 44 [(q, (ShLQ Z (.ref lv) (.ref tp) (.int (Int32.ofNat 3)))), (lv, (LA Z (E3.map Prod.fst))), (tp, (LA Z (E3.map Prod.snd))), (sa, (LA Z [0, 0, 0])), (la, (LA Z [a, b, c, d, e, f]))] 73 #[.val (.long a), .second, .val (.long b), .second, .val (.long c), .second, .val (.long d), .second, .val (.long e), .second, .val (.long f), .second, .val (.ref la), .val (.ref sa), .val (.ref q)] []
  refine W.aload at_73 (pc' := 75) rfl rfl rfl ?_
  refine W.lload at_75 (pc' := 77) rfl rfl ?_
  refine W.iconst (3 : Int32) at_77 (pc' := 78) rfl rfl ?_
  refine W.iconst (3 : Int32) at_78 (pc' := 79) rfl rfl ?_
  refine W.callV 0 rfl (mAdd l Z n0 a0 hw [(sa, (LA Z [0, 0, 0])), (la, (LA Z [a, b, c, d, e, f]))] q lv tp E3 3 d 3 3 (by decide) hl3 hh3) at_79 (wd hw 14 rfl) (wd hw 15 rfl) (wd hw 17 rfl) (wd hw 16 rfl) (wd hw 3 rfl) (wd hw 18 rfl) rfl (by decide) pd3 rfl rfl (Nat.le_of_ble_eq_true rfl) (Nat.le_of_ble_eq_true rfl) (Nat.le_of_ble_eq_true rfl) (Nat.le_of_ble_eq_true rfl) rfl (pc' := 82) rfl ?_
  rintro _ _ ⟨rfl, E4, hl4, hh4, pm4, rfl⟩
  show W _ _ _ _ _ _ 5 44 [(q, (ShLQ Z (.ref lv) (.ref tp) (.int (Int32.ofNat 4)))), (lv, (LA Z (E4.map Prod.fst))), (tp, (LA Z (E4.map Prod.snd))), (sa, (LA Z [0, 0, 0])), (la, (LA Z [a, b, c, d, e, f]))] 82 #[.val (.long a), .second, .val (.long b), .second, .val (.long c), .second, .val (.long d), .second, .val (.long e), .second, .val (.long f), .second, .val (.ref la), .val (.ref sa), .val (.ref q)] []
  refine W.aload at_82 (pc' := 84) rfl rfl rfl ?_
  refine W.lload at_84 (pc' := 86) rfl rfl ?_
  refine W.iconst (4 : Int32) at_86 (pc' := 87) rfl rfl ?_
  refine W.iconst (4 : Int32) at_87 (pc' := 88) rfl rfl ?_
  refine W.callV 0 rfl (mAdd l Z n0 a0 hw [(sa, (LA Z [0, 0, 0])), (la, (LA Z [a, b, c, d, e, f]))] q lv tp E4 4 e 4 4 (by decide) hl4 hh4) at_88 (wd hw 14 rfl) (wd hw 15 rfl) (wd hw 17 rfl) (wd hw 16 rfl) (wd hw 3 rfl) (wd hw 18 rfl) rfl (by decide) pd3 rfl rfl (Nat.le_of_ble_eq_true rfl) (Nat.le_of_ble_eq_true rfl) (Nat.le_of_ble_eq_true rfl) (Nat.le_of_ble_eq_true rfl) rfl (pc' := 91) rfl ?_
  rintro _ _ ⟨rfl, E5, hl5, hh5, pm5, rfl⟩
  show W _ _ _ _ _ _ 5 44 [(q, (ShLQ Z (.ref lv) (.ref tp) (.int (Int32.ofNat 5)))), (lv, (LA Z (E5.map Prod.fst))), (tp, (LA Z (E5.map Prod.snd))), (sa, (LA Z [0, 0, 0])), (la, (LA Z [a, b, c, d, e, f]))] 91 #[.val (.long a), .second, .val (.long b), .second, .val (.long c), .second, .val (.long d), .second, .val (.long e), .second, .val (.long f), .second, .val (.ref la), .val (.ref sa), .val (.ref q)] []
  refine W.aload at_91 (pc' := 93) rfl rfl rfl ?_
  refine W.lload at_93 (pc' := 95) rfl rfl ?_
  refine W.iconst (5 : Int32) at_95 (pc' := 96) rfl rfl ?_
  refine W.iconst (5 : Int32) at_96 (pc' := 97) rfl rfl ?_
  refine W.callV 0 rfl (mAdd l Z n0 a0 hw [(sa, (LA Z [0, 0, 0])), (la, (LA Z [a, b, c, d, e, f]))] q lv tp E5 5 f 5 5 (by decide) hl5 hh5) at_97 (wd hw 14 rfl) (wd hw 15 rfl) (wd hw 17 rfl) (wd hw 16 rfl) (wd hw 3 rfl) (wd hw 18 rfl) rfl (by decide) pd3 rfl rfl (Nat.le_of_ble_eq_true rfl) (Nat.le_of_ble_eq_true rfl) (Nat.le_of_ble_eq_true rfl) (Nat.le_of_ble_eq_true rfl) rfl (pc' := 100) rfl ?_
  rintro _ _ ⟨rfl, E6, hl6, hh6, pm6, rfl⟩
  show W _ _ _ _ _ _ 5 44 [(q, (ShLQ Z (.ref lv) (.ref tp) (.int (Int32.ofNat 6)))), (lv, (LA Z (E6.map Prod.fst))), (tp, (LA Z (E6.map Prod.snd))), (sa, (LA Z [0, 0, 0])), (la, (LA Z [a, b, c, d, e, f]))] 100 #[.val (.long a), .second, .val (.long b), .second, .val (.long c), .second, .val (.long d), .second, .val (.long e), .second, .val (.long f), .second, .val (.ref la), .val (.ref sa), .val (.ref q)] []
  have P0 := own_begin pm1 pm2 pm3 pm4 pm5 pm6
  refine W.aload at_100 (pc' := 102) rfl rfl rfl ?_
  refine W.aload at_102 (pc' := 104) rfl rfl rfl ?_
  refine W.aload at_104 (pc' := 106) rfl rfl rfl ?_
  refine W.callS (mTake l Z n0 a0 hw [] q lv tp sa la E6 5 0 [a, b, c, d, e, f] 0 0 (by decide) (by decide) rfl hl6 hh6 P0 (Or.inl rfl)) at_106 (wd hw 21 rfl) (wd hw 22 rfl) (wd hw 23 rfl) (wd hw 24 rfl) (by decide) pd4 rfl rfl (Nat.le_of_ble_eq_true rfl) (Nat.le_of_ble_eq_true rfl) (Nat.le_of_ble_eq_true rfl) (Nat.le_of_ble_eq_true rfl) rfl (pc' := 109) rfl ?_
  rintro _ _ ⟨rfl, k1, G1, hk1, hl7, hh7, P1, L1, rfl⟩
  show W _ _ _ _ _ _ 5 44 [(q, (ShLQ Z (.ref lv) (.ref tp) (.int (Int32.ofNat 5)))), (lv, (LA Z (G1.map Prod.fst))), (tp, (LA Z (G1.map Prod.snd))), (sa, (LA Z [(own_ky E6 0).1, (Int64.ofNat (0 ||| 1 <<< k1)), 1])), (la, (LA Z [a, b, c, d, e, f]))] 109 #[.val (.long a), .second, .val (.long b), .second, .val (.long c), .second, .val (.long d), .second, .val (.long e), .second, .val (.long f), .second, .val (.ref la), .val (.ref sa), .val (.ref q)] [(.int (1 : Int32))]
  have hD1 := own_D (D := 0) (by decide) (own_K_mem hk1).1
  refine W.ifY at_109 (by decide) (by decide) (pc' := 114) rfl ?_
  refine W.aload at_114 (pc' := 116) rfl rfl rfl ?_
  refine W.aload at_116 (pc' := 118) rfl rfl rfl ?_
  refine W.aload at_118 (pc' := 120) rfl rfl rfl ?_
  refine W.callS (mTake l Z n0 a0 hw [] q lv tp sa la G1 4 (0 ||| 1 <<< k1) [a, b, c, d, e, f] (own_ky E6 0).1 1 (by decide) hD1 rfl hl7 hh7 P1 (Or.inr L1)) at_120 (wd hw 21 rfl) (wd hw 22 rfl) (wd hw 23 rfl) (wd hw 24 rfl) (by decide) pd4 rfl rfl (Nat.le_of_ble_eq_true rfl) (Nat.le_of_ble_eq_true rfl) (Nat.le_of_ble_eq_true rfl) (Nat.le_of_ble_eq_true rfl) rfl (pc' := 123) rfl ?_
  rintro _ _ ⟨rfl, k2, G2, hk2, hl8, hh8, P2, L2, rfl⟩
  show W _ _ _ _ _ _ 5 44 [(q, (ShLQ Z (.ref lv) (.ref tp) (.int (Int32.ofNat 4)))), (lv, (LA Z (G2.map Prod.fst))), (tp, (LA Z (G2.map Prod.snd))), (sa, (LA Z [(own_ky G1 0).1, (Int64.ofNat ((0 ||| 1 <<< k1) ||| 1 <<< k2)), 1])), (la, (LA Z [a, b, c, d, e, f]))] 123 #[.val (.long a), .second, .val (.long b), .second, .val (.long c), .second, .val (.long d), .second, .val (.long e), .second, .val (.long f), .second, .val (.ref la), .val (.ref sa), .val (.ref q)] [(.int (1 : Int32))]
  have hD2 := own_D (D := (0 ||| 1 <<< k1)) hD1 (own_K_mem hk2).1
  refine W.ifY at_123 (by decide) (by decide) (pc' := 128) rfl ?_
  refine W.aload at_128 (pc' := 130) rfl rfl rfl ?_
  refine W.aload at_130 (pc' := 132) rfl rfl rfl ?_
  refine W.aload at_132 (pc' := 134) rfl rfl rfl ?_
  refine W.callS (mTake l Z n0 a0 hw [] q lv tp sa la G2 3 ((0 ||| 1 <<< k1) ||| 1 <<< k2) [a, b, c, d, e, f] (own_ky G1 0).1 1 (by decide) hD2 rfl hl8 hh8 P2 (Or.inr L2)) at_134 (wd hw 21 rfl) (wd hw 22 rfl) (wd hw 23 rfl) (wd hw 24 rfl) (by decide) pd4 rfl rfl (Nat.le_of_ble_eq_true rfl) (Nat.le_of_ble_eq_true rfl) (Nat.le_of_ble_eq_true rfl) (Nat.le_of_ble_eq_true rfl) rfl (pc' := 137) rfl ?_
  rintro _ _ ⟨rfl, k3, G3, hk3, hl9, hh9, P3, L3, rfl⟩
  show W _ _ _ _ _ _ 5 44 [(q, (ShLQ Z (.ref lv) (.ref tp) (.int (Int32.ofNat 3)))), (lv, (LA Z (G3.map Prod.fst))), (tp, (LA Z (G3.map Prod.snd))), (sa, (LA Z [(own_ky G2 0).1, (Int64.ofNat (((0 ||| 1 <<< k1) ||| 1 <<< k2) ||| 1 <<< k3)), 1])), (la, (LA Z [a, b, c, d, e, f]))] 137 #[.val (.long a), .second, .val (.long b), .second, .val (.long c), .second, .val (.long d), .second, .val (.long e), .second, .val (.long f), .second, .val (.ref la), .val (.ref sa), .val (.ref q)] [(.int (1 : Int32))]
  have hD3 := own_D (D := ((0 ||| 1 <<< k1) ||| 1 <<< k2)) hD2 (own_K_mem hk3).1
  refine W.ifY at_137 (by decide) (by decide) (pc' := 142) rfl ?_
  refine W.aload at_142 (pc' := 144) rfl rfl rfl ?_
  refine W.aload at_144 (pc' := 146) rfl rfl rfl ?_
  refine W.aload at_146 (pc' := 148) rfl rfl rfl ?_
  refine W.callS (mTake l Z n0 a0 hw [] q lv tp sa la G3 2 (((0 ||| 1 <<< k1) ||| 1 <<< k2) ||| 1 <<< k3) [a, b, c, d, e, f] (own_ky G2 0).1 1 (by decide) hD3 rfl hl9 hh9 P3 (Or.inr L3)) at_148 (wd hw 21 rfl) (wd hw 22 rfl) (wd hw 23 rfl) (wd hw 24 rfl) (by decide) pd4 rfl rfl (Nat.le_of_ble_eq_true rfl) (Nat.le_of_ble_eq_true rfl) (Nat.le_of_ble_eq_true rfl) (Nat.le_of_ble_eq_true rfl) rfl (pc' := 151) rfl ?_
  rintro _ _ ⟨rfl, k4, G4, hk4, hl10, hh10, P4, L4, rfl⟩
  show W _ _ _ _ _ _ 5 44 [(q, (ShLQ Z (.ref lv) (.ref tp) (.int (Int32.ofNat 2)))), (lv, (LA Z (G4.map Prod.fst))), (tp, (LA Z (G4.map Prod.snd))), (sa, (LA Z [(own_ky G3 0).1, (Int64.ofNat ((((0 ||| 1 <<< k1) ||| 1 <<< k2) ||| 1 <<< k3) ||| 1 <<< k4)), 1])), (la, (LA Z [a, b, c, d, e, f]))] 151 #[.val (.long a), .second, .val (.long b), .second, .val (.long c), .second, .val (.long d), .second, .val (.long e), .second, .val (.long f), .second, .val (.ref la), .val (.ref sa), .val (.ref q)] [(.int (1 : Int32))]
  have hD4 := own_D (D := (((0 ||| 1 <<< k1) ||| 1 <<< k2) ||| 1 <<< k3)) hD3 (own_K_mem hk4).1
  refine W.ifY at_151 (by decide) (by decide) (pc' := 156) rfl ?_
  refine W.aload at_156 (pc' := 158) rfl rfl rfl ?_
  refine W.aload at_158 (pc' := 160) rfl rfl rfl ?_
  refine W.aload at_160 (pc' := 162) rfl rfl rfl ?_
  refine W.callS (mTake l Z n0 a0 hw [] q lv tp sa la G4 1 ((((0 ||| 1 <<< k1) ||| 1 <<< k2) ||| 1 <<< k3) ||| 1 <<< k4) [a, b, c, d, e, f] (own_ky G3 0).1 1 (by decide) hD4 rfl hl10 hh10 P4 (Or.inr L4)) at_162 (wd hw 21 rfl) (wd hw 22 rfl) (wd hw 23 rfl) (wd hw 24 rfl) (by decide) pd4 rfl rfl (Nat.le_of_ble_eq_true rfl) (Nat.le_of_ble_eq_true rfl) (Nat.le_of_ble_eq_true rfl) (Nat.le_of_ble_eq_true rfl) rfl (pc' := 165) rfl ?_
  rintro _ _ ⟨rfl, k5, G5, hk5, hl11, hh11, P5, L5, rfl⟩
  show W _ _ _ _ _ _ 5 44 [(q, (ShLQ Z (.ref lv) (.ref tp) (.int (Int32.ofNat 1)))), (lv, (LA Z (G5.map Prod.fst))), (tp, (LA Z (G5.map Prod.snd))), (sa, (LA Z [(own_ky G4 0).1, (Int64.ofNat (((((0 ||| 1 <<< k1) ||| 1 <<< k2) ||| 1 <<< k3) ||| 1 <<< k4) ||| 1 <<< k5)), 1])), (la, (LA Z [a, b, c, d, e, f]))] 165 #[.val (.long a), .second, .val (.long b), .second, .val (.long c), .second, .val (.long d), .second, .val (.long e), .second, .val (.long f), .second, .val (.ref la), .val (.ref sa), .val (.ref q)] [(.int (1 : Int32))]
  have hD5 := own_D (D := ((((0 ||| 1 <<< k1) ||| 1 <<< k2) ||| 1 <<< k3) ||| 1 <<< k4)) hD4 (own_K_mem hk5).1
  refine W.ifY at_165 (by decide) (by decide) (pc' := 170) rfl ?_
  refine W.aload at_170 (pc' := 172) rfl rfl rfl ?_
  refine W.aload at_172 (pc' := 174) rfl rfl rfl ?_
  refine W.aload at_174 (pc' := 176) rfl rfl rfl ?_
  refine W.callS (mTake l Z n0 a0 hw [] q lv tp sa la G5 0 (((((0 ||| 1 <<< k1) ||| 1 <<< k2) ||| 1 <<< k3) ||| 1 <<< k4) ||| 1 <<< k5) [a, b, c, d, e, f] (own_ky G4 0).1 1 (by decide) hD5 rfl hl11 hh11 P5 (Or.inr L5)) at_176 (wd hw 21 rfl) (wd hw 22 rfl) (wd hw 23 rfl) (wd hw 24 rfl) (by decide) pd4 rfl rfl (Nat.le_of_ble_eq_true rfl) (Nat.le_of_ble_eq_true rfl) (Nat.le_of_ble_eq_true rfl) (Nat.le_of_ble_eq_true rfl) rfl (pc' := 179) rfl ?_
  rintro _ _ ⟨rfl, k6, G6, hk6, hl12, hh12, P6, L6, rfl⟩
  show W _ _ _ _ _ _ 5 44 [(q, (ShLQ Z (.ref lv) (.ref tp) (.int (Int32.ofNat 0)))), (lv, (LA Z (G6.map Prod.fst))), (tp, (LA Z (G6.map Prod.snd))), (sa, (LA Z [(own_ky G5 0).1, (Int64.ofNat ((((((0 ||| 1 <<< k1) ||| 1 <<< k2) ||| 1 <<< k3) ||| 1 <<< k4) ||| 1 <<< k5) ||| 1 <<< k6)), 1])), (la, (LA Z [a, b, c, d, e, f]))] 179 #[.val (.long a), .second, .val (.long b), .second, .val (.long c), .second, .val (.long d), .second, .val (.long e), .second, .val (.long f), .second, .val (.ref la), .val (.ref sa), .val (.ref q)] [(.int (1 : Int32))]
  have hD6 := own_D (D := (((((0 ||| 1 <<< k1) ||| 1 <<< k2) ||| 1 <<< k3) ||| 1 <<< k4) ||| 1 <<< k5)) hD5 (own_K_mem hk6).1
  refine W.ifY at_179 (by decide) (by decide) (pc' := 184) rfl ?_
  refine W.aload at_184 (pc' := 186) rfl rfl rfl ?_
  refine W.iconst (1 : Int32) at_186 (pc' := 187) rfl rfl ?_
  refine W.laload 3 1 (x := (Int64.ofNat ((((((0 ||| 1 <<< k1) ||| 1 <<< k2) ||| 1 <<< k3) ||| 1 <<< k4) ||| 1 <<< k5) ||| 1 <<< k6))) at_187 rfl (by decide) rfl rfl (pc' := 188) rfl ?_
  refine W.ldc2J at_188 (wd hw 40 rfl) (pc' := 191) rfl ?_
  refine W.lcmp at_191 (pc' := 192) rfl ?_
  refine W.ifN at_192 (XT.ll_ne_f (own_done hD6 P6)) (pc' := 195) rfl ?_
  refine W.aload at_195 (pc' := 197) rfl rfl rfl ?_
  refine W.callV 0 rfl (mEmpty l Z n0 a0 hw [(sa, (LA Z [(own_ky G5 0).1, (Int64.ofNat ((((((0 ||| 1 <<< k1) ||| 1 <<< k2) ||| 1 <<< k3) ||| 1 <<< k4) ||| 1 <<< k5) ||| 1 <<< k6)), 1])), (la, (LA Z [a, b, c, d, e, f]))] q lv tp G6) at_197 (wd hw 41 rfl) (wd hw 42 rfl) (wd hw 44 rfl) (wd hw 43 rfl) (wd hw 3 rfl) (wd hw 45 rfl) rfl (by decide) pd5 rfl rfl (Nat.le_of_ble_eq_true rfl) (Nat.le_of_ble_eq_true rfl) (Nat.le_of_ble_eq_true rfl) (Nat.le_of_ble_eq_true rfl) rfl (pc' := 200) rfl ?_
  intro v9 s9 q9
  rw [q9.1, q9.2]
  clear q9 v9 s9
  show W _ _ _ _ _ _ 5 44 [(q, (ShLQ Z (.ref lv) (.ref tp) (.int (Int32.ofNat 0)))), (lv, (LA Z (G6.map Prod.fst))), (tp, (LA Z (G6.map Prod.snd))), (sa, (LA Z [(own_ky G5 0).1, (Int64.ofNat ((((((0 ||| 1 <<< k1) ||| 1 <<< k2) ||| 1 <<< k3) ||| 1 <<< k4) ||| 1 <<< k5) ||| 1 <<< k6)), 1])), (la, (LA Z [a, b, c, d, e, f]))] 200 #[.val (.long a), .second, .val (.long b), .second, .val (.long c), .second, .val (.long d), .second, .val (.long e), .second, .val (.long f), .second, .val (.ref la), .val (.ref sa), .val (.ref q)] [(.int (1 : Int32))]
  refine W.ifN at_200 (by decide) (pc' := 203) rfl ?_
  refine W.iconst (1 : Int32) at_203 (pc' := 204) rfl rfl ?_
  refine W.goto at_204 (pc' := 208) (by decide) rfl ?_
  exact W.retN (t := .boolean) 1 at_208 rfl (by simp) rfl (by decide) (by decide) rfl
set_option maxRecDepth 65536 in
set_option maxHeartbeats 40000000 in
theorem comes_1 {Post : Tables → Env → Array Value → State → Outcome → State → Prop} (hpost : ∀ tb e args s v u, (limb_1_1.after args s (.returned v) u = true ∧ limb_1_2.after args s (.returned v) u = true ∧ True) → FrameEnd s (.returned v) u (Jvm.fieldLocs frame_1_writes args s ++ Jvm.arrayLocs frame_1_arrays args s ++ Jvm.staticLocs frame_1_statics s) 24 192 → Post tb e args s (.returned v) u) :
    ArmFor flags0 classFile x code maxLocals ret World_1 tables_1 room_1 Calls_1 rest_1 Pre_1 Post := by
  intro l hfl _ _ p en ha hc hk s m args below hf hA hF happ hP
  obtain ⟨hcalls, hrest, hpre⟩ := hP
  obtain ⟨-, -, -, hnamed, -, -, -, hat⟩ := (Spec.applies_iff hf).mp happ
  obtain ⟨hg, hn⟩ := and_e (Cond.before_iff.mp (show (Jvm.Cond.and given_1 narrow_1).before args s = true from hpre))
  obtain ⟨g0, t0⟩ := and_e hg
  obtain ⟨g1, t1⟩ := and_e t0
  obtain ⟨g2, t2⟩ := and_e t1
  obtain ⟨g3, t3⟩ := and_e t2
  obtain ⟨g4, t4⟩ := and_e t3
  obtain ⟨g5, t5⟩ := and_e t4
  obtain ⟨w0, w1, w2, w3, w4, w5, rfl⟩ : ∃ w0 w1 w2 w3 w4 w5 : Value, args = #[w0, w1, w2, w3, w4, w5] := by
    have hs : args.size = 6 := by simpa [Cond.value, given_1] using g0
    obtain ⟨L⟩ := args
    match L, hs with
    | [w0, w1, w2, w3, w4, w5], _ => exact ⟨w0, w1, w2, w3, w4, w5, rfl⟩
  have hw := fun d (hd : d ∈ tables_1) => atoms_spec (ws := Jvm.Cond.code x code maxLocals ret :: tables_1) hat d (List.mem_cons_of_mem _ hd)
  obtain ⟨a, e_a⟩ := isL_v g1
  obtain rfl : w0 = (.long a) := Option.some.inj e_a
  obtain ⟨b, e_b⟩ := isL_v g2
  obtain rfl : w1 = (.long b) := Option.some.inj e_b
  obtain ⟨c, e_c⟩ := isL_v g3
  obtain rfl : w2 = (.long c) := Option.some.inj e_c
  obtain ⟨d, e_d⟩ := isL_v g4
  obtain rfl : w3 = (.long d) := Option.some.inj e_d
  obtain ⟨e, e_e⟩ := isL_v g5
  obtain rfl : w4 = (.long e) := Option.some.inj e_e
  obtain ⟨f, e_f⟩ := isL_v t5
  obtain rfl : w5 = (.long f) := Option.some.inj e_f
  have hsep : Sep s s.heap.size s.heap [] := ⟨Old.start s, fun _ q => absurd q (List.not_mem_nil), List.nodup_nil⟩
  obtain ⟨n, o, h1, h2, h3, _, L, rfl, ⟨⟨_, rfl, -⟩, N⟩, hq⟩ := m0 l s s.heap.size _ hw a b c d e f tables_1 s.heap hsep p en ha hc hk s m _ below hf ((Spec.applies_iff_loose hf).mp happ).1 ⟨rfl, State.Warmed39.refl s, rfl⟩ trivial
  refine ⟨n, _, h1, h2, h3, hpost _ _ _ _ _ _ ⟨Cond.after_iff.mpr rfl, Cond.after_iff.mpr (eq_i res_at (Term.int_eval (1)) rfl), trivial⟩ ⟨hq.1, hq.2.1, (hq.2.2.sift fun y hy => Or.inr (N y hy)).mono (by decide) (by decide)⟩⟩
theorem main_1_1 : Claimed_1_1 := comes_1 fun _ _ _ _ _ _ h hF => ⟨h.1, hF⟩
theorem main_1_2 : Claimed_1_2 := comes_1 fun _ _ _ _ _ _ h hF => ⟨h.2.1, hF⟩
end Jvm.Pilot.@@N@@
namespace Jvm.Pilot.@@N@@
open Jvm Jvm.ClassFile Sem Op Lib Jvm.Free Jvm.Stand Jvm.Pilot.@@N@@.Jvm.D
/-! MADE BY PROGRAM (witnessworld.py) out of the Statement's table words and the real class files: 11 classes; the members and pool entries that the words name. The judged class is class 1, her method 2. -/
namespace start1
open Jvm.ClassFile
def u (s : String) : CpInfo := .utf8 (stringToUtf16 s)
/-- a pool by its gaps: so many unusable entries, then the entry; so many at the end -/
def gap : Nat → List CpInfo → List CpInfo
  | 0, r => r
  | n + 1, r => .unusable :: gap n r
def poolList (es : List (Nat × CpInfo)) (last : Nat) : List CpInfo := es.foldr (fun e r => gap e.1 (e.2 :: r)) (gap last [])
def pool (es : List (Nat × CpInfo)) (last : Nat) : Array CpInfo := ⟨poolList es last⟩
def fileOf (pool : Array CpInfo) (this : Nat) (attrs : Array Attribute := #[]) (ms : Array MethodInfo := #[]) (fl : Nat := 33) (sup : Nat := 0) (ifs : Array Nat := #[]) (fds : Array FieldInfo := #[]) : ClassFile where
  minorVersion := 0
  majorVersion := 65
  constantPool := pool
  accessFlags := fl
  thisClass := this
  superClass := sup
  interfaces := ifs
  fields := fds
  methods := ms
  attributes := attrs
def plain (name : String) (sup : Option ClassId) : Class where
  name := name
  kind := .ordinary
  loader := none
  accessFlags := 33
  super := sup
  interfaces := #[]
  cf := none
  fields := #[]
  methods := #[]
  instanceTypes := #[]
  staticTypes := #[]
  resolved := #[]
  callSites := []
  init := .initialized
  statics := none
  mirror := none

def pool0 : Array CpInfo := pool [(5, u "<init>"), (0, u "()V"), (1, .class_ 10), (1, u "java/lang/Object")] 113

def k0c0 : Code := { maxStack := 0, maxLocals := 1, code := object_method_1_code, exceptionTable := #[], attributes := #[] }
def k0m0 : Method := { name := "<init>", desc := "()V", sig := { parameters := [], returnType := none }, accessFlags := 1, code := some k0c0 }
/-- java/lang/Object -/
def k0 : Class := { plain "java/lang/Object" none with
  accessFlags := 33
  interfaces := #[]
  cf := some (fileOf pool0 8 #[] #[{ accessFlags := 1, nameIndex := 5, descriptorIndex := 6, attributes := #[] }] 33 0 #[] #[])
  fields := #[]
  methods := #[k0m0]
  instanceTypes := #[]
  staticTypes := #[]
  resolved := Array.replicate 124 none
  statics := none }

def pool1 : Array CpInfo := pool [(2, .class_ 4), (0, .nameAndType 5 6), (0, u "java/lang/Object"), (0, u "<init>"), (0, u "()V"), (0, .methodref 8 9), (0, .class_ 10), (0, .nameAndType 11 12), (0, u "com/example/mendb/mendb/LevelQueue"), (0, u "level"), (0, u "()J"), (0, .methodref 8 14), (0, .nameAndType 15 16), (0, u "store"), (0, u "()I"), (0, .methodref 8 18), (0, .nameAndType 19 6), (0, u "remove"), (0, .methodref 8 3), (0, .methodref 8 22), (0, .nameAndType 23 24), (0, u "add"), (0, u "(JII)V"), (0, .methodref 26 27), (0, .class_ 28), (0, .nameAndType 29 30), (0, u "com/example/mendb/mendb/LevelQueueRemovePinLaw"), (0, u "take"), (0, u "(Lcom/example/mendb/mendb/LevelQueue;[J[J)Z"), (0, .long 63), (1, .methodref 8 34), (0, .nameAndType 35 36), (0, u "isEmpty"), (0, u "()Z"), (3, u "law"), (0, u "(JJJJJJ)Z")] 4

def k1m0 : Method := { name := "<init>", desc := "()V", sig := { parameters := [], returnType := none }, accessFlags := 1, code := none }
def k1c1 : Code := { maxStack := 7, maxLocals := 6, code := method_2_code, exceptionTable := #[], attributes := #[] }
def k1m1 : Method := { name := "take", desc := "(Lcom/example/mendb/mendb/LevelQueue;[J[J)Z", sig := { parameters := [(.object "com/example/mendb/mendb/LevelQueue"), (.array .long), (.array .long)], returnType := some .boolean }, accessFlags := 10, code := some k1c1 }
def k1c2 : Code := { maxStack := 5, maxLocals := 15, code := code, exceptionTable := #[], attributes := #[] }
def k1m2 : Method := { name := "law", desc := "(JJJJJJ)Z", sig := { parameters := [.long, .long, .long, .long, .long, .long], returnType := some .boolean }, accessFlags := 9, code := some k1c2 }
/-- com/example/mendb/mendb/LevelQueueRemovePinLaw -/
def k1 : Class := { plain "com/example/mendb/mendb/LevelQueueRemovePinLaw" (some 0) with
  accessFlags := 49
  interfaces := #[]
  cf := some (fileOf pool1 26 #[] #[{ accessFlags := 1, nameIndex := 5, descriptorIndex := 6, attributes := #[] }, { accessFlags := 10, nameIndex := 29, descriptorIndex := 30, attributes := #[] }, { accessFlags := 9, nameIndex := 40, descriptorIndex := 41, attributes := #[] }] 49 2 #[] #[])
  fields := #[]
  methods := #[k1m0, k1m1, k1m2]
  instanceTypes := #[]
  staticTypes := #[]
  resolved := Array.replicate 46 none
  statics := none }

def pool2 : Array CpInfo := pool [(1, .methodref 2 3), (0, .class_ 4), (0, .nameAndType 5 6), (0, u "java/lang/Object"), (0, u "<init>"), (0, u "()V"), (0, .fieldref 8 9), (0, .class_ 10), (0, .nameAndType 11 12), (0, u "com/example/mendb/mendb/LevelQueue"), (0, u "levels"), (0, u "[J"), (0, .fieldref 8 14), (0, .nameAndType 15 12), (0, u "tuples"), (0, .fieldref 8 17), (0, .nameAndType 18 19), (0, u "size"), (0, u "I"), (8, u "isEmpty"), (0, u "()Z"), (2, u "add"), (0, u "(JII)V"), (0, u "level"), (0, u "()J"), (0, u "store"), (0, u "()I"), (1, u "remove")] 2

def k2c0 : Code := { maxStack := 2, maxLocals := 1, code := prog_47_method_1_code, exceptionTable := #[], attributes := #[] }
def k2m0 : Method := { name := "<init>", desc := "()V", sig := { parameters := [], returnType := none }, accessFlags := 0, code := some k2c0 }
def k2c1 : Code := { maxStack := 1, maxLocals := 1, code := prog_47_method_2_code, exceptionTable := #[], attributes := #[] }
def k2m1 : Method := { name := "isEmpty", desc := "()Z", sig := { parameters := [], returnType := some .boolean }, accessFlags := 0, code := some k2c1 }
def k2c2 : Code := { maxStack := 6, maxLocals := 7, code := prog_47_method_4_code, exceptionTable := #[], attributes := #[] }
def k2m2 : Method := { name := "add", desc := "(JII)V", sig := { parameters := [.long, .int, .int], returnType := none }, accessFlags := 0, code := some k2c2 }
def k2c3 : Code := { maxStack := 2, maxLocals := 1, code := prog_47_method_5_code, exceptionTable := #[], attributes := #[] }
def k2m3 : Method := { name := "level", desc := "()J", sig := { parameters := [], returnType := some .long }, accessFlags := 0, code := some k2c3 }
def k2c4 : Code := { maxStack := 3, maxLocals := 1, code := prog_47_method_6_code, exceptionTable := #[], attributes := #[] }
def k2m4 : Method := { name := "store", desc := "()I", sig := { parameters := [], returnType := some .int }, accessFlags := 0, code := some k2c4 }
def k2c5 : Code := { maxStack := 4, maxLocals := 7, code := prog_47_method_8_code, exceptionTable := #[], attributes := #[] }
def k2m5 : Method := { name := "remove", desc := "()V", sig := { parameters := [], returnType := none }, accessFlags := 0, code := some k2c5 }
/-- com/example/mendb/mendb/LevelQueue -/
def k2 : Class := { plain "com/example/mendb/mendb/LevelQueue" (some 0) with
  accessFlags := 32
  interfaces := #[]
  cf := some (fileOf pool2 8 #[] #[{ accessFlags := 0, nameIndex := 5, descriptorIndex := 6, attributes := #[] }, { accessFlags := 0, nameIndex := 28, descriptorIndex := 29, attributes := #[] }, { accessFlags := 0, nameIndex := 32, descriptorIndex := 33, attributes := #[] }, { accessFlags := 0, nameIndex := 34, descriptorIndex := 35, attributes := #[] }, { accessFlags := 0, nameIndex := 36, descriptorIndex := 37, attributes := #[] }, { accessFlags := 0, nameIndex := 39, descriptorIndex := 6, attributes := #[] }] 32 2 #[] #[{ accessFlags := 2, nameIndex := 11, descriptorIndex := 12, attributes := #[] }, { accessFlags := 2, nameIndex := 15, descriptorIndex := 12, attributes := #[] }, { accessFlags := 2, nameIndex := 18, descriptorIndex := 19, attributes := #[] }])
  fields := #[{ name := "levels", type := (.array .long), accessFlags := 2, slot := 0, constantValue := 0 }, { name := "tuples", type := (.array .long), accessFlags := 2, slot := 1, constantValue := 0 }, { name := "size", type := .int, accessFlags := 2, slot := 2, constantValue := 0 }]
  methods := #[k2m0, k2m1, k2m2, k2m3, k2m4, k2m5]
  instanceTypes := #[(.array .long), (.array .long), .int]
  staticTypes := #[]
  resolved := Array.replicate 42 none
  statics := none }

def pool3 : Array CpInfo := pool [(1, u "java/lang/Cloneable"), (0, .class_ 1), (0, u "java/lang/Object"), (0, .class_ 3)] 3

/-- java/lang/Cloneable -/
def k3 : Class := { plain "java/lang/Cloneable" (some 0) with
  accessFlags := 1537
  interfaces := #[]
  cf := some (fileOf pool3 2 #[] #[] 1537 4 #[] #[])
  fields := #[]
  methods := #[]
  instanceTypes := #[]
  staticTypes := #[]
  resolved := Array.replicate 8 none
  statics := none }

def pool4 : Array CpInfo := pool [(1, u "java/io/Serializable"), (0, .class_ 1), (0, u "java/lang/Object"), (0, .class_ 3)] 3

/-- java/io/Serializable -/
def k4 : Class := { plain "java/io/Serializable" (some 0) with
  accessFlags := 1537
  interfaces := #[]
  cf := some (fileOf pool4 2 #[] #[] 1537 4 #[] #[])
  fields := #[]
  methods := #[]
  instanceTypes := #[]
  staticTypes := #[]
  resolved := Array.replicate 8 none
  statics := none }

/-- the primitive byte -/
def k5 : Class := { plain "byte" none with kind := .primitive 'B', accessFlags := 0x411 }
/-- [B -/
def k6 : Class := { plain "[B" (some 0) with kind := .array 5 .byte, interfaces := #[3, 4], accessFlags := 1041 }

/-- the primitive int -/
def k7 : Class := { plain "int" none with kind := .primitive 'I', accessFlags := 0x411 }
/-- [I -/
def k8 : Class := { plain "[I" (some 0) with kind := .array 7 .int, interfaces := #[3, 4], accessFlags := 1041 }

/-- the primitive long -/
def k9 : Class := { plain "long" none with kind := .primitive 'J', accessFlags := 0x411 }
/-- [J -/
def k10 : Class := { plain "[J" (some 0) with kind := .array 9 .long, interfaces := #[3, 4], accessFlags := 1041 }

def heap : Heap := #[]
def classes : Array Class := #[k0, k1, k2, k3, k4, k5, k6, k7, k8, k9, k10]
def interned : List (Array UInt16 × Addr) := []
def slotsUsed : Nat := 0
def theMethod : MethodId := ⟨1, 2⟩
def args0 : Array Value := #[.long 5, .long 5, .long 5, .long 5, .long 5, .long 5]
def aboutOver (below : List Frame) : State where
  vm := { classes := classes, interned := interned.toArray }
  heap := heap
  slotsUsed := slotsUsed
  threads := #[{ frames := .invoking theMethod args0 :: below }]
def below0 : List Frame := [.native { method := ⟨0, 0⟩, args := #[] }]
def about1 : State := aboutOver below0
def p0 : Program := .bare "" "" ""
def e0 : Env := launch0.env 0 0 0
theorem w_frames : about1.frames = Frame.invoking theMethod args0 :: below0 := rfl
set_option maxRecDepth 65536 in
theorem w_args : argsFit about1.vm theMethod args0 = true := by decide +kernel
set_option maxRecDepth 65536 in
theorem w_heap : heapFits about1 = true := by decide +kernel
set_option maxRecDepth 65536 in
theorem w_runnable : about1.curStatus? = some .runnable := by decide +kernel
set_option maxRecDepth 65536 in
theorem w_alone : about1.alone = true := by decide +kernel
set_option maxRecDepth 65536 in
theorem w_named : about1.methodNamed? x = some theMethod := by decide +kernel
set_option maxRecDepth 65536 in
theorem w_hears : about1.hears theMethod below0 = true := by decide +kernel
set_option maxRecDepth 65536 in
theorem w_ripe : about1.ripe theMethod args0 below0 = true := by decide +kernel
theorem w_running : about1.status = .running := rfl
set_option maxRecDepth 65536 in
theorem w_room : about1.hasRoom e0.platform room_1 = true :=
  launch0.hasRoom_least _ room_1 (by decide +kernel) (by decide +kernel) (by decide +kernel) (by decide +kernel) (by decide +kernel) (by decide +kernel)
theorem allAtoms_all (ts : List Jvm.Cond) (a : Array Jvm.Value) (st : Jvm.State) : (allAtoms ts).before a st = ts.all (fun c => c.before a st) := by
  induction ts with
  | nil => rfl
  | cons c t ih =>
    show (Jvm.Cond.and c (allAtoms t)).before a st = _
    rw [Jvm.Cond.before_and, ih, List.all_cons]
def words1 : List Jvm.Cond := Jvm.Cond.code x code maxLocals ret :: tables_1
/-- a 'code' word, met by the world's own term for the bytes: nothing is compared byte by byte -/
theorem code_word {y : MethodName} {bytes : ByteArray} {mx : Nat} {rt : Option FieldType} {a : Array Value} {s : State} {m : MethodId} {meth : Method} {c : Code} (h1 : s.methodNamed? y = some m) (h2 : s.vm.method? m = some meth) (h3 : meth.code = some c) (h4 : c.code = bytes)
    (h5 : (c.maxLocals == mx && c.exceptionTable.isEmpty && decide (c.maxStack ≤ mostOperands) && decide (meth.sig.returnType = rt) && !meth.locks && decide (parseMethodDescriptor y.desc = some meth.sig)) = true) : (Jvm.Cond.code y bytes mx rt).before a s = true := by
  simp only [Bool.and_eq_true, beq_iff_eq, Bool.not_eq_true', decide_eq_true_eq] at h5
  obtain ⟨⟨⟨⟨⟨g1, g2⟩, g3⟩, g4⟩, g5⟩, g6⟩ := h5
  simp [Cond.before, Cond.holds, Cond.value, h1, h2, h3, h4, g1, g2, g3, g4, g5, g6]
def isCode : Jvm.Cond → Bool
  | .code _ _ _ _ => true
  | _ => false
theorem all_split {L : List Jvm.Cond} {P : Jvm.Cond → Bool} (h1 : L.all (fun c => isCode c || P c) = true) (h2 : ∀ c ∈ L.filter isCode, P c = true) : L.all P = true := by
  refine List.all_eq_true.mpr fun c hc => ?_
  have h := List.all_eq_true.mp h1 c hc
  rcases Bool.eq_false_or_eq_true (isCode c) with hi | hi
  · exact h2 c (List.mem_filter.mpr ⟨hc, hi⟩)
  · simpa [hi] using h
set_option maxRecDepth 65536 in
theorem w_c0 : (Jvm.Cond.code x code maxLocals ret).before args0 about1 = true := code_word (m := ⟨1, 2⟩) (meth := k1m2) (c := k1c2) (by decide +kernel) rfl rfl rfl (by decide +kernel)
set_option maxRecDepth 65536 in
theorem w_c1 : (Jvm.Cond.code ({ cls := "com/example/mendb/mendb/LevelQueue", name := "<init>", desc := "()V" } : Jvm.MethodName) prog_47_method_1_code (1 : Nat) (Option.none : Option Jvm.ClassFile.FieldType)).before args0 about1 = true := code_word (m := ⟨2, 0⟩) (meth := k2m0) (c := k2c0) (by decide +kernel) rfl rfl rfl (by decide +kernel)
set_option maxRecDepth 65536 in
theorem w_c2 : (Jvm.Cond.code ({ cls := "java/lang/Object", name := "<init>", desc := "()V" } : Jvm.MethodName) object_method_1_code (1 : Nat) (Option.none : Option Jvm.ClassFile.FieldType)).before args0 about1 = true := code_word (m := ⟨0, 0⟩) (meth := k0m0) (c := k0c0) (by decide +kernel) rfl rfl rfl (by decide +kernel)
set_option maxRecDepth 65536 in
theorem w_c3 : (Jvm.Cond.code ({ cls := "com/example/mendb/mendb/LevelQueue", name := "add", desc := "(JII)V" } : Jvm.MethodName) prog_47_method_4_code (7 : Nat) (Option.none : Option Jvm.ClassFile.FieldType)).before args0 about1 = true := code_word (m := ⟨2, 2⟩) (meth := k2m2) (c := k2c2) (by decide +kernel) rfl rfl rfl (by decide +kernel)
set_option maxRecDepth 65536 in
theorem w_c4 : (Jvm.Cond.code ({ cls := "com/example/mendb/mendb/LevelQueueRemovePinLaw", name := "take", desc := "(Lcom/example/mendb/mendb/LevelQueue;[J[J)Z" } : Jvm.MethodName) method_2_code (6 : Nat) (Option.some Jvm.ClassFile.FieldType.boolean)).before args0 about1 = true := code_word (m := ⟨1, 1⟩) (meth := k1m1) (c := k1c1) (by decide +kernel) rfl rfl rfl (by decide +kernel)
set_option maxRecDepth 65536 in
theorem w_c5 : (Jvm.Cond.code ({ cls := "com/example/mendb/mendb/LevelQueue", name := "level", desc := "()J" } : Jvm.MethodName) prog_47_method_5_code (1 : Nat) (Option.some Jvm.ClassFile.FieldType.long)).before args0 about1 = true := code_word (m := ⟨2, 3⟩) (meth := k2m3) (c := k2c3) (by decide +kernel) rfl rfl rfl (by decide +kernel)
set_option maxRecDepth 65536 in
theorem w_c6 : (Jvm.Cond.code ({ cls := "com/example/mendb/mendb/LevelQueue", name := "store", desc := "()I" } : Jvm.MethodName) prog_47_method_6_code (1 : Nat) (Option.some Jvm.ClassFile.FieldType.int)).before args0 about1 = true := code_word (m := ⟨2, 4⟩) (meth := k2m4) (c := k2c4) (by decide +kernel) rfl rfl rfl (by decide +kernel)
set_option maxRecDepth 65536 in
theorem w_c7 : (Jvm.Cond.code ({ cls := "com/example/mendb/mendb/LevelQueue", name := "remove", desc := "()V" } : Jvm.MethodName) prog_47_method_8_code (7 : Nat) (Option.none : Option Jvm.ClassFile.FieldType)).before args0 about1 = true := code_word (m := ⟨2, 5⟩) (meth := k2m5) (c := k2c5) (by decide +kernel) rfl rfl rfl (by decide +kernel)
set_option maxRecDepth 65536 in
theorem w_c8 : (Jvm.Cond.code ({ cls := "com/example/mendb/mendb/LevelQueue", name := "isEmpty", desc := "()Z" } : Jvm.MethodName) prog_47_method_2_code (1 : Nat) (Option.some Jvm.ClassFile.FieldType.boolean)).before args0 about1 = true := code_word (m := ⟨2, 1⟩) (meth := k2m1) (c := k2c1) (by decide +kernel) rfl rfl rfl (by decide +kernel)
def codes1 : List Jvm.Cond := [Jvm.Cond.code x code maxLocals ret, Jvm.Cond.code ({ cls := "com/example/mendb/mendb/LevelQueue", name := "<init>", desc := "()V" } : Jvm.MethodName) prog_47_method_1_code (1 : Nat) (Option.none : Option Jvm.ClassFile.FieldType), Jvm.Cond.code ({ cls := "java/lang/Object", name := "<init>", desc := "()V" } : Jvm.MethodName) object_method_1_code (1 : Nat) (Option.none : Option Jvm.ClassFile.FieldType), Jvm.Cond.code ({ cls := "com/example/mendb/mendb/LevelQueue", name := "add", desc := "(JII)V" } : Jvm.MethodName) prog_47_method_4_code (7 : Nat) (Option.none : Option Jvm.ClassFile.FieldType), Jvm.Cond.code ({ cls := "com/example/mendb/mendb/LevelQueueRemovePinLaw", name := "take", desc := "(Lcom/example/mendb/mendb/LevelQueue;[J[J)Z" } : Jvm.MethodName) method_2_code (6 : Nat) (Option.some Jvm.ClassFile.FieldType.boolean), Jvm.Cond.code ({ cls := "com/example/mendb/mendb/LevelQueue", name := "level", desc := "()J" } : Jvm.MethodName) prog_47_method_5_code (1 : Nat) (Option.some Jvm.ClassFile.FieldType.long), Jvm.Cond.code ({ cls := "com/example/mendb/mendb/LevelQueue", name := "store", desc := "()I" } : Jvm.MethodName) prog_47_method_6_code (1 : Nat) (Option.some Jvm.ClassFile.FieldType.int), Jvm.Cond.code ({ cls := "com/example/mendb/mendb/LevelQueue", name := "remove", desc := "()V" } : Jvm.MethodName) prog_47_method_8_code (7 : Nat) (Option.none : Option Jvm.ClassFile.FieldType), Jvm.Cond.code ({ cls := "com/example/mendb/mendb/LevelQueue", name := "isEmpty", desc := "()Z" } : Jvm.MethodName) prog_47_method_2_code (1 : Nat) (Option.some Jvm.ClassFile.FieldType.boolean)]
set_option maxRecDepth 65536 in
theorem codes_eq : words1.filter isCode = codes1 := rfl
theorem w_codes : ∀ c ∈ words1.filter isCode, c.before args0 about1 = true := by
  rw [codes_eq]
  intro c hc
  simp only [codes1, List.mem_cons, List.not_mem_nil, or_false] at hc
  rcases hc with rfl | rfl | rfl | rfl | rfl | rfl | rfl | rfl | rfl
  · exact w_c0
  · exact w_c1
  · exact w_c2
  · exact w_c3
  · exact w_c4
  · exact w_c5
  · exact w_c6
  · exact w_c7
  · exact w_c8
set_option maxRecDepth 65536 in
theorem w_t1 : (words1.take 24).all (fun c => isCode c || c.before args0 about1) = true := by decide +kernel
set_option maxRecDepth 65536 in
theorem w_t2 : (words1.drop 24).all (fun c => isCode c || c.before args0 about1) = true := by decide +kernel
theorem w_tables : (allAtoms (Jvm.Cond.code x code maxLocals ret :: tables_1)).before args0 about1 = true := by
  rw [allAtoms_all]
  show words1.all (fun c => c.before args0 about1) = true
  refine all_split ?_ w_codes
  rw [← List.take_append_drop 24 words1, List.all_append, w_t1, w_t2]
  rfl
set_option maxRecDepth 65536 in
theorem w_case : (Jvm.Cond.and given_1 narrow_1).before args0 about1 = true := by decide +kernel
theorem w_applies : (headSpec (Jvm.Cond.code x code maxLocals ret :: tables_1) room_1).applies x e0.platform about1 = true :=
  (Spec.applies_iff w_frames).mpr ⟨w_running, w_runnable, w_alone, w_named, w_hears, w_ripe, w_room, w_tables⟩
theorem atStart : AtStart classFile x code maxLocals ret World_1 tables_1 room_1 Calls_1 rest_1 Pre_1 launch0 p0 e0 about1 theMethod args0 below0 :=
  ⟨lists_1, trivial, launch0.admits_env _ _ _, launch0.least_env, fairChoices_fair.cas, fairChoices_fair.clock, w_frames, w_args, w_heap, w_applies, trivial, trivial, w_case⟩
end start1
theorem witness_1 : WitnessClaimed_1 := ⟨start1.p0, start1.e0, start1.about1, start1.theMethod, start1.args0, start1.below0, start1.atStart⟩
end Jvm.Pilot.@@N@@
