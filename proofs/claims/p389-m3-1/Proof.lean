import JvmDerived
import JvmDerived.Pilot.@@N@@Statement
import JvmDerived.Pilot.@@N@@Code
set_option linter.unusedVariables false
set_option linter.unusedSimpArgs false
namespace Jvm.Pilot.@@N@@
open Jvm Jvm.ClassFile Sem Op Lib Jvm.Free Jvm.Stand Jvm.LawKit Jvm.RoadKit Bundle Jvm.Pilot.@@N@@.Jvm.D
/-! OWN FRAMEWORK, part 1: a weakest-precondition form of the walk (W), its single steps, returns, calls -/
/-- what is known of the heap: addresses with what their cells are -/
abbrev Asn := List (Addr × (Cell → Prop))
def Sep (Z : State) (n0 : Nat) (h : Heap) (σ : Asn) : Prop := Old Z n0 h ∧ (∀ x ∈ σ, n0 ≤ x.1 ∧ ∃ c : Cell, h[x.1]? = some c ∧ x.2 c) ∧ (σ.map (fun x => x.1)).Nodup
/-- a body: its class, name, bytes, max_locals, return kind -/
abbrev Bdy := String × String × ByteArray × Nat × Option FieldType
def Cx (p : Program) (s : State) (m : MethodId) (meth : Method) (c : Code) (Z : State) (B : Bdy) : Prop :=
  p.tables.exec = Jvm.exec ∧ c.code = B.2.2.1 ∧ c.maxLocals = B.2.2.2.1 ∧ s.vm.findClass B.1 = some m.cls ∧ meth.name = B.2.1 ∧ Z.Warmed39 s.vm ∧ meth.sig.returnType = B.2.2.2.2 ∧ meth.locks = false
/-- from this point (known heap, pc, locals, stack) the body returns, and what it returns meets Q -/
def W (l : Launch) (Z : State) (n0 : Nat) (B : Bdy) (R : Room) (Q : Option Value → Asn → Prop) (cells slots : Nat) (σ : Asn) (pc : Nat) (ls : Array Slot) (st : List Value) : Prop :=
  ∀ (p : Program) (e : Env) (s : State) (m : MethodId) (args : Array Value) (below : List Frame) (meth : Method) (c : Code) (T : State) (locs : List Loc),
    Cx p s m meth c Z B → Stand p l e R s m args below meth c T locs cells slots → Fr n0 locs → Sep Z n0 T.heap σ →
    ∃ (u : State) (o : Outcome), Steps p.tables e below (T.setTop (mkF m pc ls st)) u ∧ u.status = .running ∧ Ended u below o ∧
      ∃ (v : Option Value) (L : List Loc), o = .returned v ∧ ((∃ σ', Q v σ' ∧ Sep Z n0 u.heap σ') ∧ Fr n0 L) ∧ FrameEnd s o u L R.cells R.slots
/-- a contract: called with these arguments on a heap that meets σ, the method returns, and Q holds -/
def Sp (l : Launch) (Z : State) (n0 : Nat) (y : MethodName) (bytes : ByteArray) (maxL : Nat) (ret : Option FieldType) (rm : Room) (as : List Value) (σ : Asn) (Q : Option Value → Asn → Prop) : Prop :=
  ∀ (ws : List Jvm.Cond) (h0 : Heap), Sep Z n0 h0 σ → MetFree l y (head1 (Jvm.Cond.code y bytes maxL ret :: ws) rm) (fun a U => a = as.toArray ∧ Z.Warmed39 U.vm ∧ U.heap = h0) (fun _ _ _ _ _ => True)
    (fun _ U o U' => ∃ v L, o = .returned v ∧ ((∃ σ', Q v σ' ∧ Sep Z n0 U'.heap σ') ∧ Fr n0 L) ∧ FrameEnd U o U' L rm.cells rm.slots)
section Rules
variable {l : Launch} {Z : State} {n0 : Nat} {B : Bdy} {R : Room} {Q : Option Value → Asn → Prop} {cells slots : Nat} {σ : Asn} {pc pc' : Nat} {ls ls' : Array Slot} {st st' rest : List Value} {a0 : Array Value}
theorem Sp.of {y : MethodName} {bytes : ByteArray} {maxL : Nat} {ret : Option FieldType} {as : List Value} (hpn : plainFor y = true) (hent : ∀ m, entryFrame m as.toArray maxL = mkF m 0 ls [])
    (k : W l Z n0 (y.cls, y.name, bytes, maxL, ret) R Q 0 0 σ 0 ls []) : Sp l Z n0 y bytes maxL ret R as σ Q := by
  intro ws h0 hS
  refine MetFree.of_bodySF hpn hisR ?_
  intro p e s m args below meth c s₁ Bd hml0 hP hK
  obtain ⟨rfl, hZ, hh⟩ := hP
  have e0 : s₁.heap = h0 := by rw [← hh, Bd.state]; rfl
  obtain ⟨u, o, h1, h2, h3, h4⟩ := k p e s m _ below meth c s₁ [] ⟨Bd.exec, Bd.bytes, hml0, findClass_of_methodNamed Bd.named, (name_of_methodNamed Bd.named Bd.method).1, hZ, Bd.returns, Bd.notSynchronized⟩ (Stand.of_body Bd) (Fr.nil n0) (by rw [e0]; exact hS)
  exact ⟨u, o, castTop (hent m) h1, h2, h3, h4⟩
theorem W.of (hstep : ∀ (p : Program) (e : Env) (s : State) (m : MethodId) (args : Array Value) (below : List Frame) (meth : Method) (c : Code) (T : State) (locs : List Loc), Cx p s m meth c Z B → Stand p l e R s m args below meth c T locs cells slots → ∀ t, Steps p.tables e below (T.setTop (mkF m pc' ls' st')) t → Steps p.tables e below (T.setTop (mkF m pc ls st)) t)
    (k : W l Z n0 B R Q cells slots σ pc' ls' st') : W l Z n0 B R Q cells slots σ pc ls st := by
  intro p e s m args below meth c T locs C X N S
  obtain ⟨u, o, h1, h2⟩ := k p e s m args below meth c T locs C X N S
  exact ⟨u, o, hstep p e s m args below meth c T locs C X u h1, h2⟩
theorem W.mono {Q' : Option Value → Asn → Prop} (hQ : ∀ v σ', Q v σ' → Q' v σ') (k : W l Z n0 B R Q cells slots σ pc ls st) : W l Z n0 B R Q' cells slots σ pc ls st := by
  intro p e s m args below meth c T locs C X N S
  obtain ⟨u, o, h1, h2, h3, v, L, h4, ⟨⟨σ', h5, h6⟩, h7⟩, h8⟩ := k p e s m args below meth c T locs C X N S
  exact ⟨u, o, h1, h2, h3, v, L, h4, ⟨⟨σ', hQ _ _ h5, h6⟩, h7⟩, h8⟩
theorem Sp.mono {y : MethodName} {bytes : ByteArray} {maxL : Nat} {ret : Option FieldType} {as : List Value} {Q' : Option Value → Asn → Prop} (hQ : ∀ v σ', Q v σ' → Q' v σ') (k : Sp l Z n0 y bytes maxL ret R as σ Q) : Sp l Z n0 y bytes maxL ret R as σ Q' := by
  intro ws h0 hS p e ha hc hk s m args below hf happ hP hK
  obtain ⟨n, o, h1, h2, h3, v, L, h4, ⟨⟨σ', h5, h6⟩, h7⟩, h8⟩ := k ws h0 hS p e ha hc hk s m args below hf happ hP hK
  exact ⟨n, o, h1, h2, h3, v, L, h4, ⟨⟨σ', hQ _ _ h5, h6⟩, h7⟩, h8⟩
/-! constants, loads, stores -/
theorem W.iconst (v : Int32) {i : Int} (hd : decode B.2.2.1 pc = .ok (.iconst i, 1)) (hp : pc + 1 = pc') (hv : Int32.ofInt i = v) (k : W l Z n0 B R Q cells slots σ pc' ls (.int v :: st)) : W l Z n0 B R Q cells slots σ pc ls st := by
  subst hp hv; exact W.of (fun p e s m args below meth c T locs C X t h => XS.iconst X.here C.1 rfl (hb C.2.1 hd) h) k
theorem W.bipush (v : Int32) {i : Int} (hd : decode B.2.2.1 pc = .ok (.bipush i, 2)) (hp : pc + 2 = pc') (hv : (Int8.ofInt i).toInt32 = v) (k : W l Z n0 B R Q cells slots σ pc' ls (.int v :: st)) : W l Z n0 B R Q cells slots σ pc ls st := by
  subst hp hv; exact W.of (fun p e s m args below meth c T locs C X t h => XS.bipush X.here C.1 rfl (hb C.2.1 hd) h) k
theorem W.sipush (v : Int32) {i : Int} (hd : decode B.2.2.1 pc = .ok (.sipush i, 3)) (hp : pc + 3 = pc') (hv : (Int16.ofInt i).toInt32 = v) (k : W l Z n0 B R Q cells slots σ pc' ls (.int v :: st)) : W l Z n0 B R Q cells slots σ pc ls st := by
  subst hp hv; exact W.of (fun p e s m args below meth c T locs C X t h => XS.sipush X.here C.1 rfl (hb C.2.1 hd) h) k
theorem W.lconst (v : Int64) {i : Fin 2} (hd : decode B.2.2.1 pc = .ok (.lconst i, 1)) (hp : pc + 1 = pc') (hv : Int64.ofNat i = v) (k : W l Z n0 B R Q cells slots σ pc' ls (.long v :: st)) : W l Z n0 B R Q cells slots σ pc ls st := by
  subst hp hv; exact W.of (fun p e s m args below meth c T locs C X t h => XT.lconst X.here C.1 rfl (hb C.2.1 hd) h) k
theorem W.aconstNull (hd : decode B.2.2.1 pc = .ok (.aconst_null, 1)) (hp : pc + 1 = pc') (k : W l Z n0 B R Q cells slots σ pc' ls (.null :: st)) : W l Z n0 B R Q cells slots σ pc ls st := by
  subst hp; exact W.of (fun p e s m args below meth c T locs C X t h => XS.aconstNull X.here C.1 rfl (hb C.2.1 hd) h) k
theorem W.ldcI {i : Nat} {v : Int32} (hd : decode B.2.2.1 pc = .ok (.ldc i, 2)) (w : (Jvm.Cond.constant B.1 i v).before a0 Z = true) (hp : pc + 2 = pc') (k : W l Z n0 B R Q cells slots σ pc' ls (.int v :: st)) : W l Z n0 B R Q cells slots σ pc ls st := by
  subst hp; exact W.of (fun p e s m args below meth c T locs C X t h => X.ldcI C.1 C.2.2.2.1 (mvT C.2.2.2.2.2.1 w) rfl (hb C.2.1 hd) h) k
theorem W.ldc2J {i : Nat} {v : Int64} (hd : decode B.2.2.1 pc = .ok (.ldc2_w i, 3)) (w : (Jvm.Cond.constantLong B.1 i v).before a0 Z = true) (hp : pc + 3 = pc') (k : W l Z n0 B R Q cells slots σ pc' ls (.long v :: st)) : W l Z n0 B R Q cells slots σ pc ls st := by
  subst hp; exact W.of (fun p e s m args below meth c T locs C X t h => X.ldc2J C.1 C.2.2.2.1 (mvT C.2.2.2.2.2.1 w) rfl (hb C.2.1 hd) h) k
theorem W.iloadN {i : Fin 4} {v : Int32} (hd : decode B.2.2.1 pc = .ok (.iload_n i, 1)) (hp : pc + 1 = pc') (hl : ls[i.val]? = some (.val (.int v))) (k : W l Z n0 B R Q cells slots σ pc' ls (.int v :: st)) : W l Z n0 B R Q cells slots σ pc ls st := by
  subst hp; exact W.of (fun p e s m args below meth c T locs C X t h => XS.iloadN X.here C.1 rfl (hb C.2.1 hd) hl h) k
theorem W.iload {i : Nat} {v : Int32} (hd : decode B.2.2.1 pc = .ok (.iload i, 2)) (hp : pc + 2 = pc') (hl : ls[i]? = some (.val (.int v))) (k : W l Z n0 B R Q cells slots σ pc' ls (.int v :: st)) : W l Z n0 B R Q cells slots σ pc ls st := by
  subst hp; exact W.of (fun p e s m args below meth c T locs C X t h => XS.iload X.here C.1 rfl (hb C.2.1 hd) hl h) k
theorem W.lloadN {i : Fin 4} {v : Int64} (hd : decode B.2.2.1 pc = .ok (.lload_n i, 1)) (hp : pc + 1 = pc') (hl : ls[i.val]? = some (.val (.long v))) (k : W l Z n0 B R Q cells slots σ pc' ls (.long v :: st)) : W l Z n0 B R Q cells slots σ pc ls st := by
  subst hp; exact W.of (fun p e s m args below meth c T locs C X t h => XT.lloadN X.here C.1 rfl (hb C.2.1 hd) hl h) k
theorem W.lload {i : Nat} {v : Int64} (hd : decode B.2.2.1 pc = .ok (.lload i, 2)) (hp : pc + 2 = pc') (hl : ls[i]? = some (.val (.long v))) (k : W l Z n0 B R Q cells slots σ pc' ls (.long v :: st)) : W l Z n0 B R Q cells slots σ pc ls st := by
  subst hp; exact W.of (fun p e s m args below meth c T locs C X t h => XT.lload X.here C.1 rfl (hb C.2.1 hd) hl h) k
theorem W.aloadN {i : Fin 4} {v : Value} (hd : decode B.2.2.1 pc = .ok (.aload_n i, 1)) (hp : pc + 1 = pc') (hl : ls[i.val]? = some (.val v)) (hv : v.isRef = true) (k : W l Z n0 B R Q cells slots σ pc' ls (v :: st)) : W l Z n0 B R Q cells slots σ pc ls st := by
  subst hp; exact W.of (fun p e s m args below meth c T locs C X t h => XS.aloadN X.here C.1 rfl (hb C.2.1 hd) hl hv h) k
theorem W.aload {i : Nat} {v : Value} (hd : decode B.2.2.1 pc = .ok (.aload i, 2)) (hp : pc + 2 = pc') (hl : ls[i]? = some (.val v)) (hv : v.isRef = true) (k : W l Z n0 B R Q cells slots σ pc' ls (v :: st)) : W l Z n0 B R Q cells slots σ pc ls st := by
  subst hp; exact W.of (fun p e s m args below meth c T locs C X t h => XS.aload X.here C.1 rfl (hb C.2.1 hd) hl hv h) k
theorem W.istoreN (ls' : Array Slot) {i : Fin 4} {v : Int32} (hd : decode B.2.2.1 pc = .ok (.istore_n i, 1)) (hp : pc + 1 = pc') (hl : storeLocals ls i.val (.int v) = some ls') (k : W l Z n0 B R Q cells slots σ pc' ls' st) : W l Z n0 B R Q cells slots σ pc ls (.int v :: st) := by
  subst hp; exact W.of (fun p e s m args below meth c T locs C X t h => XS.istoreN X.here C.1 rfl (hb C.2.1 hd) rfl hl h) k
theorem W.istore (ls' : Array Slot) {i : Nat} {v : Int32} (hd : decode B.2.2.1 pc = .ok (.istore i, 2)) (hp : pc + 2 = pc') (hl : storeLocals ls i (.int v) = some ls') (k : W l Z n0 B R Q cells slots σ pc' ls' st) : W l Z n0 B R Q cells slots σ pc ls (.int v :: st) := by
  subst hp; exact W.of (fun p e s m args below meth c T locs C X t h => XS.istore X.here C.1 rfl (hb C.2.1 hd) rfl hl h) k
theorem W.lstoreN (ls' : Array Slot) {i : Fin 4} {v : Int64} (hd : decode B.2.2.1 pc = .ok (.lstore_n i, 1)) (hp : pc + 1 = pc') (hl : storeLocals ls i.val (.long v) = some ls') (k : W l Z n0 B R Q cells slots σ pc' ls' st) : W l Z n0 B R Q cells slots σ pc ls (.long v :: st) := by
  subst hp; exact W.of (fun p e s m args below meth c T locs C X t h => XT.lstoreN X.here C.1 rfl (hb C.2.1 hd) rfl hl h) k
theorem W.lstore (ls' : Array Slot) {i : Nat} {v : Int64} (hd : decode B.2.2.1 pc = .ok (.lstore i, 2)) (hp : pc + 2 = pc') (hl : storeLocals ls i (.long v) = some ls') (k : W l Z n0 B R Q cells slots σ pc' ls' st) : W l Z n0 B R Q cells slots σ pc ls (.long v :: st) := by
  subst hp; exact W.of (fun p e s m args below meth c T locs C X t h => XT.lstore X.here C.1 rfl (hb C.2.1 hd) rfl hl h) k
theorem W.astoreN (ls' : Array Slot) {i : Fin 4} {v : Value} (hd : decode B.2.2.1 pc = .ok (.astore_n i, 1)) (hp : pc + 1 = pc') (hv : v.isRef = true) (hl : storeLocals ls i.val v = some ls') (k : W l Z n0 B R Q cells slots σ pc' ls' st) : W l Z n0 B R Q cells slots σ pc ls (v :: st) := by
  subst hp; exact W.of (fun p e s m args below meth c T locs C X t h => XS.astoreN X.here C.1 rfl (hb C.2.1 hd) rfl hv hl h) k
theorem W.astore (ls' : Array Slot) {i : Nat} {v : Value} (hd : decode B.2.2.1 pc = .ok (.astore i, 2)) (hp : pc + 2 = pc') (hv : v.isRef = true) (hl : storeLocals ls i v = some ls') (k : W l Z n0 B R Q cells slots σ pc' ls' st) : W l Z n0 B R Q cells slots σ pc ls (v :: st) := by
  subst hp; exact W.of (fun p e s m args below meth c T locs C X t h => XS.astore X.here C.1 rfl (hb C.2.1 hd) rfl hv hl h) k
theorem W.iinc (ls' : Array Slot) {i : Nat} {cst : Int} {x : Int32} (v y : Int32) (hd : decode B.2.2.1 pc = .ok (.iinc i cst, 3)) (hp : pc + 3 = pc') (hv : Int32.ofInt cst = v) (hx : ls[i]? = some (.val (.int x))) (hy : x + v = y) (hl : storeLocals ls i (.int y) = some ls') (k : W l Z n0 B R Q cells slots σ pc' ls' st) : W l Z n0 B R Q cells slots σ pc ls st := by
  subst hp hv hy; exact W.of (fun p e s m args below meth c T locs C X t h => XS.iinc X.here C.1 rfl (hb C.2.1 hd) hx hl h) k
theorem W.topJ {x : Int64} (y : Int64) (h : x = y) (k : W l Z n0 B R Q cells slots σ pc ls (.long y :: st)) : W l Z n0 B R Q cells slots σ pc ls (.long x :: st) := h ▸ k
theorem W.topI {x : Int32} (y : Int32) (h : x = y) (k : W l Z n0 B R Q cells slots σ pc ls (.int y :: st)) : W l Z n0 B R Q cells slots σ pc ls (.int x :: st) := h ▸ k
/-! arithmetic -/
theorem W.iadd {x : Int32} {y : Int32} (hd : decode B.2.2.1 pc = .ok (.iadd, 1)) (hp : pc + 1 = pc') (k : W l Z n0 B R Q cells slots σ pc' ls (.int (x + y) :: st)) : W l Z n0 B R Q cells slots σ pc ls (.int y :: .int x :: st) := by
  subst hp; exact W.of (fun p e s m args below meth c T locs C X t h => XS.iadd X.here C.1 rfl (hb C.2.1 hd) rfl h) k
theorem W.isub {x : Int32} {y : Int32} (hd : decode B.2.2.1 pc = .ok (.isub, 1)) (hp : pc + 1 = pc') (k : W l Z n0 B R Q cells slots σ pc' ls (.int (x - y) :: st)) : W l Z n0 B R Q cells slots σ pc ls (.int y :: .int x :: st) := by
  subst hp; exact W.of (fun p e s m args below meth c T locs C X t h => XS.isub X.here C.1 rfl (hb C.2.1 hd) rfl h) k
theorem W.imul {x : Int32} {y : Int32} (hd : decode B.2.2.1 pc = .ok (.imul, 1)) (hp : pc + 1 = pc') (k : W l Z n0 B R Q cells slots σ pc' ls (.int (x * y) :: st)) : W l Z n0 B R Q cells slots σ pc ls (.int y :: .int x :: st) := by
  subst hp; exact W.of (fun p e s m args below meth c T locs C X t h => XS.imul X.here C.1 rfl (hb C.2.1 hd) rfl h) k
theorem W.iand {x : Int32} {y : Int32} (hd : decode B.2.2.1 pc = .ok (.iand, 1)) (hp : pc + 1 = pc') (k : W l Z n0 B R Q cells slots σ pc' ls (.int (x &&& y) :: st)) : W l Z n0 B R Q cells slots σ pc ls (.int y :: .int x :: st) := by
  subst hp; exact W.of (fun p e s m args below meth c T locs C X t h => XS.iand X.here C.1 rfl (hb C.2.1 hd) rfl h) k
theorem W.ior {x : Int32} {y : Int32} (hd : decode B.2.2.1 pc = .ok (.ior, 1)) (hp : pc + 1 = pc') (k : W l Z n0 B R Q cells slots σ pc' ls (.int (x ||| y) :: st)) : W l Z n0 B R Q cells slots σ pc ls (.int y :: .int x :: st) := by
  subst hp; exact W.of (fun p e s m args below meth c T locs C X t h => XT.ior X.here C.1 rfl (hb C.2.1 hd) rfl h) k
theorem W.ixor {x : Int32} {y : Int32} (hd : decode B.2.2.1 pc = .ok (.ixor, 1)) (hp : pc + 1 = pc') (k : W l Z n0 B R Q cells slots σ pc' ls (.int (x ^^^ y) :: st)) : W l Z n0 B R Q cells slots σ pc ls (.int y :: .int x :: st) := by
  subst hp; exact W.of (fun p e s m args below meth c T locs C X t h => XT.ixor X.here C.1 rfl (hb C.2.1 hd) rfl h) k
theorem W.ishl {x : Int32} {y : Int32} (hd : decode B.2.2.1 pc = .ok (.ishl, 1)) (hp : pc + 1 = pc') (k : W l Z n0 B R Q cells slots σ pc' ls (.int (x <<< (y &&& 31)) :: st)) : W l Z n0 B R Q cells slots σ pc ls (.int y :: .int x :: st) := by
  subst hp; exact W.of (fun p e s m args below meth c T locs C X t h => XT.ishl X.here C.1 rfl (hb C.2.1 hd) rfl h) k
theorem W.ishr {x : Int32} {y : Int32} (hd : decode B.2.2.1 pc = .ok (.ishr, 1)) (hp : pc + 1 = pc') (k : W l Z n0 B R Q cells slots σ pc' ls (.int (x >>> (y &&& 31)) :: st)) : W l Z n0 B R Q cells slots σ pc ls (.int y :: .int x :: st) := by
  subst hp; exact W.of (fun p e s m args below meth c T locs C X t h => XT.ishr X.here C.1 rfl (hb C.2.1 hd) rfl h) k
theorem W.iushr {x : Int32} {y : Int32} (hd : decode B.2.2.1 pc = .ok (.iushr, 1)) (hp : pc + 1 = pc') (k : W l Z n0 B R Q cells slots σ pc' ls (.int (XT.ushr x y) :: st)) : W l Z n0 B R Q cells slots σ pc ls (.int y :: .int x :: st) := by
  subst hp; exact W.of (fun p e s m args below meth c T locs C X t h => XT.iushr X.here C.1 rfl (hb C.2.1 hd) rfl h) k
theorem W.ladd {x : Int64} {y : Int64} (hd : decode B.2.2.1 pc = .ok (.ladd, 1)) (hp : pc + 1 = pc') (k : W l Z n0 B R Q cells slots σ pc' ls (.long (x + y) :: st)) : W l Z n0 B R Q cells slots σ pc ls (.long y :: .long x :: st) := by
  subst hp; exact W.of (fun p e s m args below meth c T locs C X t h => XT.ladd X.here C.1 rfl (hb C.2.1 hd) rfl h) k
theorem W.lsub {x : Int64} {y : Int64} (hd : decode B.2.2.1 pc = .ok (.lsub, 1)) (hp : pc + 1 = pc') (k : W l Z n0 B R Q cells slots σ pc' ls (.long (x - y) :: st)) : W l Z n0 B R Q cells slots σ pc ls (.long y :: .long x :: st) := by
  subst hp; exact W.of (fun p e s m args below meth c T locs C X t h => XT.lsub X.here C.1 rfl (hb C.2.1 hd) rfl h) k
theorem W.lmul {x : Int64} {y : Int64} (hd : decode B.2.2.1 pc = .ok (.lmul, 1)) (hp : pc + 1 = pc') (k : W l Z n0 B R Q cells slots σ pc' ls (.long (x * y) :: st)) : W l Z n0 B R Q cells slots σ pc ls (.long y :: .long x :: st) := by
  subst hp; exact W.of (fun p e s m args below meth c T locs C X t h => XT.lmul X.here C.1 rfl (hb C.2.1 hd) rfl h) k
theorem W.land {x : Int64} {y : Int64} (hd : decode B.2.2.1 pc = .ok (.land, 1)) (hp : pc + 1 = pc') (k : W l Z n0 B R Q cells slots σ pc' ls (.long (x &&& y) :: st)) : W l Z n0 B R Q cells slots σ pc ls (.long y :: .long x :: st) := by
  subst hp; exact W.of (fun p e s m args below meth c T locs C X t h => XT.land X.here C.1 rfl (hb C.2.1 hd) rfl h) k
theorem W.lor {x : Int64} {y : Int64} (hd : decode B.2.2.1 pc = .ok (.lor, 1)) (hp : pc + 1 = pc') (k : W l Z n0 B R Q cells slots σ pc' ls (.long (x ||| y) :: st)) : W l Z n0 B R Q cells slots σ pc ls (.long y :: .long x :: st) := by
  subst hp; exact W.of (fun p e s m args below meth c T locs C X t h => XT.lor X.here C.1 rfl (hb C.2.1 hd) rfl h) k
theorem W.lxor {x : Int64} {y : Int64} (hd : decode B.2.2.1 pc = .ok (.lxor, 1)) (hp : pc + 1 = pc') (k : W l Z n0 B R Q cells slots σ pc' ls (.long (x ^^^ y) :: st)) : W l Z n0 B R Q cells slots σ pc ls (.long y :: .long x :: st) := by
  subst hp; exact W.of (fun p e s m args below meth c T locs C X t h => XT.lxor X.here C.1 rfl (hb C.2.1 hd) rfl h) k
theorem W.lushr {x : Int64} {y : Int32} (hd : decode B.2.2.1 pc = .ok (.lushr, 1)) (hp : pc + 1 = pc') (k : W l Z n0 B R Q cells slots σ pc' ls (.long (XT.ushrL x y) :: st)) : W l Z n0 B R Q cells slots σ pc ls (.int y :: .long x :: st) := by
  subst hp; exact W.of (fun p e s m args below meth c T locs C X t h => XT.lushr X.here C.1 rfl (hb C.2.1 hd) rfl h) k
theorem W.lshl {x : Int64} {y : Int32} (hd : decode B.2.2.1 pc = .ok (.lshl, 1)) (hp : pc + 1 = pc') (k : W l Z n0 B R Q cells slots σ pc' ls (.long (x <<< (y.toInt64 &&& 63)) :: st)) : W l Z n0 B R Q cells slots σ pc ls (.int y :: .long x :: st) := by
  subst hp; exact W.of (fun p e s m args below meth c T locs C X t h => XT.lshl X.here C.1 rfl (hb C.2.1 hd) rfl h) k
theorem W.lcmp {x : Int64} {y : Int64} (hd : decode B.2.2.1 pc = .ok (.lcmp, 1)) (hp : pc + 1 = pc') (k : W l Z n0 B R Q cells slots σ pc' ls (.int (XT.cmpL x y) :: st)) : W l Z n0 B R Q cells slots σ pc ls (.long y :: .long x :: st) := by
  subst hp; exact W.of (fun p e s m args below meth c T locs C X t h => XT.lcmp X.here C.1 rfl (hb C.2.1 hd) rfl h) k
theorem W.i2l {x : Int32} (hd : decode B.2.2.1 pc = .ok (.i2l, 1)) (hp : pc + 1 = pc') (k : W l Z n0 B R Q cells slots σ pc' ls (.long (x.toInt64) :: st)) : W l Z n0 B R Q cells slots σ pc ls (.int x :: st) := by
  subst hp; exact W.of (fun p e s m args below meth c T locs C X t h => XT.i2l X.here C.1 rfl (hb C.2.1 hd) rfl h) k
theorem W.l2i {x : Int64} (hd : decode B.2.2.1 pc = .ok (.l2i, 1)) (hp : pc + 1 = pc') (k : W l Z n0 B R Q cells slots σ pc' ls (.int (x.toInt32) :: st)) : W l Z n0 B R Q cells slots σ pc ls (.long x :: st) := by
  subst hp; exact W.of (fun p e s m args below meth c T locs C X t h => XT.l2i X.here C.1 rfl (hb C.2.1 hd) rfl h) k
theorem W.i2b {x : Int32} (hd : decode B.2.2.1 pc = .ok (.i2b, 1)) (hp : pc + 1 = pc') (k : W l Z n0 B R Q cells slots σ pc' ls (.int (x.toInt8.toInt32) :: st)) : W l Z n0 B R Q cells slots σ pc ls (.int x :: st) := by
  subst hp; exact W.of (fun p e s m args below meth c T locs C X t h => XT.i2b X.here C.1 rfl (hb C.2.1 hd) rfl h) k
theorem W.i2c {x : Int32} (hd : decode B.2.2.1 pc = .ok (.i2c, 1)) (hp : pc + 1 = pc') (k : W l Z n0 B R Q cells slots σ pc' ls (.int (x.toUInt32.toUInt16.toUInt32.toInt32) :: st)) : W l Z n0 B R Q cells slots σ pc ls (.int x :: st) := by
  subst hp; exact W.of (fun p e s m args below meth c T locs C X t h => XT.i2c X.here C.1 rfl (hb C.2.1 hd) rfl h) k
theorem W.idiv {x y : Int32} (hd : decode B.2.2.1 pc = .ok (.idiv, 1)) (hp : pc + 1 = pc') (hy : y ≠ 0) (k : W l Z n0 B R Q cells slots σ pc' ls (.int (x / y) :: st)) : W l Z n0 B R Q cells slots σ pc ls (.int y :: .int x :: st) := by
  subst hp; exact W.of (fun p e s m args below meth c T locs C X t h => XS.idiv X.here C.1 rfl (hb C.2.1 hd) rfl hy h) k
theorem W.irem {x y : Int32} (hd : decode B.2.2.1 pc = .ok (.irem, 1)) (hp : pc + 1 = pc') (hy : y ≠ 0) (k : W l Z n0 B R Q cells slots σ pc' ls (.int (x % y) :: st)) : W l Z n0 B R Q cells slots σ pc ls (.int y :: .int x :: st) := by
  subst hp; exact W.of (fun p e s m args below meth c T locs C X t h => iremM X C.1 rfl (hb C.2.1 hd) rfl hy h) k
theorem W.dup {x : Value} (hd : decode B.2.2.1 pc = .ok (.dup, 1)) (hp : pc + 1 = pc') (hc : x.category = 1) (k : W l Z n0 B R Q cells slots σ pc' ls (x :: x :: st)) : W l Z n0 B R Q cells slots σ pc ls (x :: st) := by
  subst hp; exact W.of (fun p e s m args below meth c T locs C X t h => XS.dup X.here C.1 rfl (hb C.2.1 hd) rfl hc h) k
theorem W.pop {x : Value} (hd : decode B.2.2.1 pc = .ok (.pop, 1)) (hp : pc + 1 = pc') (hc : x.category = 1) (k : W l Z n0 B R Q cells slots σ pc' ls st) : W l Z n0 B R Q cells slots σ pc ls (x :: st) := by
  subst hp; exact W.of (fun p e s m args below meth c T locs C X t h => XT.pop X.here C.1 rfl (hb C.2.1 hd) rfl hc h) k
theorem W.dupX1 {x y : Value} (hd : decode B.2.2.1 pc = .ok (.dup_x1, 1)) (hp : pc + 1 = pc') (hc : x.category = 1) (hc' : y.category = 1) (k : W l Z n0 B R Q cells slots σ pc' ls (x :: y :: x :: st)) : W l Z n0 B R Q cells slots σ pc ls (x :: y :: st) := by
  subst hp; exact W.of (fun p e s m args below meth c T locs C X t h => XT.dupX1 X.here C.1 rfl (hb C.2.1 hd) rfl hc hc' h) k
/-! branches -/
theorem W.goto {o : Int} (hd : decode B.2.2.1 pc = .ok (.goto o, 3)) (ho : 0 ≤ (pc : Int) + o) (hp : ((pc : Int) + o).toNat = pc') (k : W l Z n0 B R Q cells slots σ pc' ls st) : W l Z n0 B R Q cells slots σ pc ls st :=
  W.of (fun p e s m args below meth c T locs C X t h => XS.goto X.here C.1 rfl rfl (hb C.2.1 hd) ho hp h) k
theorem W.ifY {cd : ClassFile.Cond} {x : Int32} {o : Int} (hd : decode B.2.2.1 pc = .ok (.ifCond cd o, 3)) (hc : ifCond.holds cd x = true) (ho : 0 ≤ (pc : Int) + o) (hp : ((pc : Int) + o).toNat = pc') (k : W l Z n0 B R Q cells slots σ pc' ls st) : W l Z n0 B R Q cells slots σ pc ls (.int x :: st) :=
  W.of (fun p e s m args below meth c T locs C X t h => XS.ifYes X.here C.1 rfl rfl (hb C.2.1 hd) rfl hc ho hp h) k
theorem W.ifN {cd : ClassFile.Cond} {x : Int32} {o : Int} (hd : decode B.2.2.1 pc = .ok (.ifCond cd o, 3)) (hc : ifCond.holds cd x = false) (hp : pc + 3 = pc') (k : W l Z n0 B R Q cells slots σ pc' ls st) : W l Z n0 B R Q cells slots σ pc ls (.int x :: st) := by
  subst hp; exact W.of (fun p e s m args below meth c T locs C X t h => XS.ifNo X.here C.1 rfl (hb C.2.1 hd) rfl hc h) k
theorem W.icmpY {cd : ClassFile.Cond} {x y : Int32} {o : Int} (hd : decode B.2.2.1 pc = .ok (.if_icmp cd o, 3)) (hc : if_icmp.holds cd x y = true) (ho : 0 ≤ (pc : Int) + o) (hp : ((pc : Int) + o).toNat = pc') (k : W l Z n0 B R Q cells slots σ pc' ls st) : W l Z n0 B R Q cells slots σ pc ls (.int y :: .int x :: st) :=
  W.of (fun p e s m args below meth c T locs C X t h => XS.icmpYes X.here C.1 rfl rfl (hb C.2.1 hd) rfl hc ho hp h) k
theorem W.icmpN {cd : ClassFile.Cond} {x y : Int32} {o : Int} (hd : decode B.2.2.1 pc = .ok (.if_icmp cd o, 3)) (hc : if_icmp.holds cd x y = false) (hp : pc + 3 = pc') (k : W l Z n0 B R Q cells slots σ pc' ls st) : W l Z n0 B R Q cells slots σ pc ls (.int y :: .int x :: st) := by
  subst hp; exact W.of (fun p e s m args below meth c T locs C X t h => XS.icmpNo X.here C.1 rfl (hb C.2.1 hd) rfl hc h) k
theorem W.acmpY {cd : ClassFile.ACond} {x y : Value} {o : Int} (hd : decode B.2.2.1 pc = .ok (.if_acmp cd o, 3)) (hx : x.isRef = true) (hy : y.isRef = true) (hc : XT.acmp cd x y = true) (ho : 0 ≤ (pc : Int) + o) (hp : ((pc : Int) + o).toNat = pc') (k : W l Z n0 B R Q cells slots σ pc' ls st) : W l Z n0 B R Q cells slots σ pc ls (y :: x :: st) :=
  W.of (fun p e s m args below meth c T locs C X t h => XT.acmpYes X.here C.1 rfl rfl (hb C.2.1 hd) rfl hx hy hc ho hp h) k
theorem W.acmpN {cd : ClassFile.ACond} {x y : Value} {o : Int} (hd : decode B.2.2.1 pc = .ok (.if_acmp cd o, 3)) (hx : x.isRef = true) (hy : y.isRef = true) (hc : XT.acmp cd x y = false) (hp : pc + 3 = pc') (k : W l Z n0 B R Q cells slots σ pc' ls st) : W l Z n0 B R Q cells slots σ pc ls (y :: x :: st) := by
  subst hp; exact W.of (fun p e s m args below meth c T locs C X t h => XT.acmpNo X.here C.1 rfl (hb C.2.1 hd) rfl hx hy hc h) k
theorem W.nullY {o : Int} (hd : decode B.2.2.1 pc = .ok (.ifnull o, 3)) (ho : 0 ≤ (pc : Int) + o) (hp : ((pc : Int) + o).toNat = pc') (k : W l Z n0 B R Q cells slots σ pc' ls st) : W l Z n0 B R Q cells slots σ pc ls (.null :: st) :=
  W.of (fun p e s m args below meth c T locs C X t h => XS.ifnullYes X.here C.1 rfl rfl (hb C.2.1 hd) rfl ho hp h) k
theorem W.nullN {a : Addr} {o : Int} (hd : decode B.2.2.1 pc = .ok (.ifnull o, 3)) (hp : pc + 3 = pc') (k : W l Z n0 B R Q cells slots σ pc' ls st) : W l Z n0 B R Q cells slots σ pc ls (.ref a :: st) := by
  subst hp; exact W.of (fun p e s m args below meth c T locs C X t h => XS.ifnullNo X.here C.1 rfl (hb C.2.1 hd) rfl h) k
theorem W.nonnullY {a : Addr} {o : Int} (hd : decode B.2.2.1 pc = .ok (.ifnonnull o, 3)) (ho : 0 ≤ (pc : Int) + o) (hp : ((pc : Int) + o).toNat = pc') (k : W l Z n0 B R Q cells slots σ pc' ls st) : W l Z n0 B R Q cells slots σ pc ls (.ref a :: st) :=
  W.of (fun p e s m args below meth c T locs C X t h => XT.ifnonnullYes X.here C.1 rfl rfl (hb C.2.1 hd) rfl ho hp h) k
theorem W.nonnullN {o : Int} (hd : decode B.2.2.1 pc = .ok (.ifnonnull o, 3)) (hp : pc + 3 = pc') (k : W l Z n0 B R Q cells slots σ pc' ls st) : W l Z n0 B R Q cells slots σ pc ls (.null :: st) := by
  subst hp; exact W.of (fun p e s m args below meth c T locs C X t h => XT.ifnonnullNo X.here C.1 rfl (hb C.2.1 hd) rfl h) k
/-! returns -/
theorem W.fin {v : Option Value} (hv : B.2.2.2.2 = none → v = none) (hc : cells ≤ R.cells) (hs : slots ≤ R.slots) (hQ : Q v σ)
    (hstep : ∀ (p : Program) (e : Env) (s : State) (m : MethodId) (args : Array Value) (below : List Frame) (meth : Method) (c : Code) (T : State) (locs : List Loc), Cx p s m meth c Z B → Stand p l e R s m args below meth c T locs cells slots → ∀ fs, (∀ (f : JFrame) (acts : List Action), f.method = m → f.locked = none → f.entered = [] → (doReturn e (T.setTop f) acts v).1 = T.setFrames fs) → Steps p.tables e below (T.setTop (mkF m pc ls st)) (T.setFrames fs)) :
    W l Z n0 B R Q cells slots σ pc ls st := by
  intro p e s m args below meth c T locs C X N S
  obtain ⟨fs, hr, hrun, hended, hW, hsame⟩ := X.leave (v := v) (fun h => hv (C.2.2.2.2.2.2.1.symm.trans h)) C.2.2.2.2.2.2.2
  exact ⟨_, _, hstep p e s m args below meth c T locs C X fs hr, hrun, hended, v, locs, rfl, ⟨⟨σ, hQ, S⟩, N⟩, ⟨_, rfl⟩, hW, hsame.mono hc hs⟩
theorem W.retN {t : FieldType} {z : Int32} (z' : Int32) (hd : decode B.2.2.1 pc = .ok (.ireturn, 1)) (hr : B.2.2.2.2 = some t) (ht : t = .boolean ∨ t = .byte ∨ t = .char ∨ t = .short) (hz : nar t z = z') (hc : cells ≤ R.cells) (hs : slots ≤ R.slots) (hQ : Q (some (.int z')) σ) : W l Z n0 B R Q cells slots σ pc ls (.int z :: st) := by
  subst hz; exact W.fin (fun h => by rw [hr] at h; cases h) hc hs hQ (fun p e s m args below meth c T locs C X fs h => RoadKit.retN X C.1 (C.2.2.2.2.2.2.1.trans hr) ht (hb C.2.1 hd) h)
theorem W.retI {z : Int32} (hd : decode B.2.2.1 pc = .ok (.ireturn, 1)) (hr : B.2.2.2.2 = some .int) (hc : cells ≤ R.cells) (hs : slots ≤ R.slots) (hQ : Q (some (.int z)) σ) : W l Z n0 B R Q cells slots σ pc ls (.int z :: st) :=
  W.fin (fun h => by rw [hr] at h; cases h) hc hs hQ (fun p e s m args below meth c T locs C X fs h => retOut X C.1 (t := .int) (C.2.2.2.2.2.2.1.trans hr) rfl (Or.inl ⟨rfl, Or.inl rfl, _, rfl⟩) (hb C.2.1 hd) h)
theorem W.retJ {z : Int64} (hd : decode B.2.2.1 pc = .ok (.lreturn, 1)) (hr : B.2.2.2.2 = some .long) (hc : cells ≤ R.cells) (hs : slots ≤ R.slots) (hQ : Q (some (.long z)) σ) : W l Z n0 B R Q cells slots σ pc ls (.long z :: st) :=
  W.fin (fun h => by rw [hr] at h; cases h) hc hs hQ (fun p e s m args below meth c T locs C X fs h => retOut X C.1 (t := .long) (C.2.2.2.2.2.2.1.trans hr) rfl (Or.inr (Or.inl ⟨rfl, rfl, _, rfl⟩)) (hb C.2.1 hd) h)
theorem W.retA {t : FieldType} {v : Value} (hd : decode B.2.2.1 pc = .ok (.areturn, 1)) (hr : B.2.2.2.2 = some t) (ht : t.isReference = true) (hn : narrow t v = v) (hv : v.isRef = true) (hc : cells ≤ R.cells) (hs : slots ≤ R.slots) (hQ : Q (some v) σ) : W l Z n0 B R Q cells slots σ pc ls (v :: st) :=
  W.fin (fun h => by rw [hr] at h; cases h) hc hs hQ (fun p e s m args below meth c T locs C X fs h => retOut X C.1 (t := t) (C.2.2.2.2.2.2.1.trans hr) hn (Or.inr (Or.inr (Or.inr (Or.inr ⟨rfl, ht, hv⟩)))) (hb C.2.1 hd) h)
theorem W.retV (hd : decode B.2.2.1 pc = .ok (.return_, 1)) (hr : B.2.2.2.2 = none) (hc : cells ≤ R.cells) (hs : slots ≤ R.slots) (hQ : Q none σ) : W l Z n0 B R Q cells slots σ pc ls [] :=
  W.fin (fun _ => rfl) hc hs hQ (fun p e s m args below meth c T locs C X fs h => X.returnOut C.1 (C.2.2.2.2.2.2.1.trans hr) (hb C.2.1 hd) h)
/-! calls -/
theorem W.back {y : MethodName} {bytes : ByteArray} {maxL : Nat} {ret : Option FieldType} {rm : Room} {as : List Value} {Qc : Option Value → Asn → Prop} {len Wd : Nat} (hS : Sp l Z n0 y bytes maxL ret rm as σ Qc) {h : Heap} (hsep : Sep Z n0 h σ)
    {p : Program} {e : Env} {below : List Frame} {s : State} {args : Array Value} (hZ : Z.Warmed39 s.vm) (wc : (Jvm.Cond.code y bytes maxL ret).before a0 Z = true) (wz : (Jvm.Cond.initialized y.cls).before a0 Z = true) (hf : rm.frames + 1 ≤ R.frames) (hl : Wd + (maxL + 11) + rm.locals ≤ R.locals) :
    Back l R p e below s args y len Wd (fun A a => a = as.toArray ∧ A.U.heap = h ∧ A.cells + rm.cells ≤ R.cells ∧ A.slots + rm.slots ≤ R.slots)
      (fun A _ v B => ∃ L, ((∃ σ', Qc v σ' ∧ Sep Z n0 B.U.heap σ') ∧ Fr n0 L) ∧ B.locs = A.locs ++ L ∧ B.cells = A.cells + rm.cells ∧ B.slots = A.slots + rm.slots) :=
  backOf (Q := fun v h' L => (∃ σ', Qc v σ' ∧ Sep Z n0 h' σ') ∧ Fr n0 L) (hS [] h hsep) hZ wc wz hf hl
theorem W.callS {y : MethodName} {bytes : ByteArray} {maxL : Nat} {ret : Option FieldType} {rm : Room} {as : List Value} {Qc : Option Value → Asn → Prop} {i : Nat} {sg : MethodDescriptor} (hS : Sp l Z n0 y bytes maxL ret rm as σ Qc)
    (hd : decode B.2.2.1 pc = .ok (.invokestatic i, 3)) (w1 : (Jvm.Cond.methodLink B.1 i y).before a0 Z = true) (w2 : (Jvm.Cond.static y).before a0 Z = true) (wz : (Jvm.Cond.initialized y.cls).before a0 Z = true) (wc : (Jvm.Cond.code y bytes maxL ret).before a0 Z = true)
    (hy : y.cls ≠ "java/lang/invoke/MethodHandle" ∧ y.cls ≠ "java/lang/invoke/VarHandle") (hsg : parseMethodDescriptor y.desc = some sg) (hln : as.length = sg.parameters.length) (hst : st = as.reverse ++ rest)
    (hf : rm.frames + 1 ≤ R.frames) (hl : (rest.map fun v => v.category).sum + (maxL + 11) + rm.locals ≤ R.locals) (hc : cells + rm.cells ≤ R.cells) (hs : slots + rm.slots ≤ R.slots) (hsz : ls.size = B.2.2.2.1) (hp : pc + 3 = pc')
    (k : ∀ v σ', Qc v σ' → W l Z n0 B R Q (cells + rm.cells) (slots + rm.slots) σ' pc' ls (v.toList ++ rest)) : W l Z n0 B R Q cells slots σ pc ls st := by
  subst hp
  intro p e s m args below meth c T locs C X N S
  obtain ⟨hx, hby, hml, hown, hnm, hZ, hrt, hlk⟩ := C
  obtain ⟨v, _, ⟨T8, L8, k8, n8⟩, -, X8, ⟨Lc8, ⟨⟨σ', hQ8, hS8⟩, hF8⟩, l8, y8, z8⟩, st8⟩ := Jvm.LawKit.callS X hx (y := y) hown (mvT hZ w1) (mvT hZ w2) (mvT hZ wz) (mvT hZ wc) hy (W.back (a0 := a0) hS S hZ wc wz hf hl) (g := (mkF m pc ls st)) rfl (by rw [hml]; exact hsz) (argsL := as) (rest := rest) (lenOf hsg hln) hst (by show 2 * 0 + _ ≤ _; omega) (hb hby hd) (fun _ _ => ⟨rfl, rfl, hc, hs⟩)
  dsimp only [Pt.U, Pt.locs, Pt.cells, Pt.slots] at X8 l8 y8 z8 st8 hS8
  subst l8 y8 z8
  obtain ⟨u, o, h1, h2⟩ := k v σ' hQ8 p e s m args below meth c T8 _ ⟨hx, hby, hml, hown, hnm, hZ, hrt, hlk⟩ X8 (N.app hF8) hS8
  exact ⟨u, o, st8 _ h1, h2⟩
end Rules
/-! OWN FRAMEWORK, part 2: the heap -/
def ObjP (Z : State) (C : String) (fs : List (String × String × String × Value)) (c : Cell) : Prop :=
  Exa Z #[c] 0 C ∧ (∀ f ∈ fs, Fld Z #[c] 0 f.1 f.2.1 f.2.2.1 f.2.2.2) ∧ fs.Pairwise (fun f f' => RoadKit.slotOf Z f.1 f.2.1 f.2.2.1 ≠ RoadKit.slotOf Z f'.1 f'.2.1 f'.2.2.1)
def IA (Z : State) (ty : FieldType) (xs : List Int32) (c : Cell) : Prop := Z.isArrayOf c ty ∧ c.vm ≠ .unknown ∧ c.slots.toList = xs.map Value.int
def LA (Z : State) (xs : List Int64) (c : Cell) : Prop := Z.isArrayOf c .long ∧ c.vm ≠ .unknown ∧ c.slots.toList = xs.map Value.long
def LaidL (Z : State) (a0 : Array Value) (C : String) : List (String × String × String × Value) → Prop
  | [] => True
  | f :: fs => (Laid Z a0 C f.1 f.2.1 f.2.2.1 ∧ ∃ ty, parseFieldDescriptor f.2.2.1 = some ty ∧ f.2.2.2 = defaultValue ty) ∧ LaidL Z a0 C fs
section Heap
variable {Z : State} {n0 : Nat} {h h' : Heap} {σ σ' : Asn} {a b : Addr} {P P' : Cell → Prop} {i j : Nat} {c : Cell} {C n d : String} {v : Value} {sl : Nat}
theorem fld_out (F : Fld Z #[c] 0 C n d v) (q : h[a]? = some c) : Fld Z h a C n d v := by
  obtain ⟨cell, cf, k, i, f, h1, r⟩ := F
  obtain rfl : c = cell := by simpa using h1
  exact ⟨c, cf, k, i, f, q, r⟩
theorem fld_in (F : Fld Z h a C n d v) (q : h[a]? = some c) : Fld Z #[c] 0 C n d v := by
  obtain ⟨cell, cf, k, i, f, h1, r⟩ := F
  cases q.symm.trans h1
  exact ⟨c, cf, k, i, f, rfl, r⟩
theorem exa_out (F : Exa Z #[c] 0 C) (q : h[a]? = some c) : Exa Z h a C := by
  obtain ⟨cell, k, h1, r⟩ := F
  obtain rfl : c = cell := by simpa using h1
  exact ⟨c, k, q, r⟩
theorem exa_in (F : Exa Z h a C) (q : h[a]? = some c) : Exa Z #[c] 0 C := by
  obtain ⟨cell, k, h1, r⟩ := F
  cases q.symm.trans h1
  exact ⟨c, k, rfl, r⟩
theorem Sep.get (S : Sep Z n0 h σ) (hi : σ[i]? = some (a, P)) : n0 ≤ a ∧ ∃ c : Cell, h[a]? = some c ∧ P c := S.2.1 _ (List.mem_of_getElem? hi)
theorem Sep.ne (S : Sep Z n0 h σ) (hi : σ[i]? = some (a, P)) (hj : σ[j]? = some (b, P')) (hij : i ≠ j) : a ≠ b := by
  have hi' : (σ.map (fun x => x.1))[i]? = some a := by simp [hi]
  have hj' : (σ.map (fun x => x.1))[j]? = some b := by simp [hj]
  obtain ⟨l1, e1⟩ := List.getElem?_eq_some_iff.mp hi'
  obtain ⟨l2, e2⟩ := List.getElem?_eq_some_iff.mp hj'
  have hN := List.pairwise_iff_getElem.mp S.2.2
  rcases Nat.lt_or_gt_of_ne hij with q | q
  · have := hN i j l1 l2 q; rwa [e1, e2] at this
  · have := hN j i l2 l1 q; rw [e1, e2] at this; exact fun z => this z.symm
theorem Sep.lt (S : Sep Z n0 h σ) (hi : σ[i]? = some (a, P)) : a < h.size := by
  obtain ⟨-, c, hc, -⟩ := S.get hi
  exact (Array.getElem?_eq_some_iff.mp hc).1
theorem Sep.set (S : Sep Z n0 h σ) (hi : σ[i]? = some (a, P)) (hW : Wr h h' a sl v) (hP : ∀ c : Cell, h[a]? = some c → P c → P' (c.setSlot sl v)) : Sep Z n0 h' (σ.set i (a, P')) := by
  obtain ⟨hn, c, hc, hp⟩ := S.get hi
  refine ⟨S.1.wr hW hn, ?_, ?_⟩
  · intro x hx
    obtain ⟨j, hj⟩ := List.mem_iff_getElem?.mp hx
    by_cases hij : i = j
    · subst hij
      have hlt := (List.getElem?_eq_some_iff.mp hi).1
      rw [List.getElem?_set_self hlt] at hj
      cases hj
      obtain ⟨c', e1, -, -, -, -, -, e7⟩ := wr_at hW hc
      exact ⟨hn, c.setSlot sl v, by rw [← (e7 rfl).1]; exact e1, hP c hc hp⟩
    · rw [List.getElem?_set_ne hij] at hj
      obtain ⟨xb, xP⟩ := x
      obtain ⟨hn2, c2, hc2, hp2⟩ := S.get hj
      have hne := S.ne hj hi (Ne.symm hij)
      obtain ⟨c', e1, -, -, -, e5, -⟩ := wr_at hW hc2
      exact ⟨hn2, c2, by rw [← e5 hne]; exact e1, hp2⟩
  · have e : (σ.set i (a, P')).map (fun x => x.1) = σ.map (fun x => x.1) := by
      apply List.ext_getElem?
      intro j
      simp only [List.getElem?_map]
      by_cases hij : i = j
      · subst hij
        rw [List.getElem?_set_self (List.getElem?_eq_some_iff.mp hi).1, hi]; rfl
      · rw [List.getElem?_set_ne hij]
    rw [e]; exact S.2.2
theorem Sep.ext (S : Sep Z n0 h σ) (E : Ext h h') : Sep Z n0 h' σ := ⟨S.1.ext E, fun x hx => by obtain ⟨q1, c, q2, q3⟩ := S.2.1 x hx; exact ⟨q1, c, E.2 _ _ q2, q3⟩, S.2.2⟩
theorem Sep.size (S : Sep Z n0 h σ) : n0 ≤ h.size := by rw [← S.1.1]; exact S.1.2.1
theorem Sep.new (S : Sep Z n0 h σ) (E : Ext h h') (hc : h'[h.size]? = some c) (hP : P c) : Sep Z n0 h' ((h.size, P) :: σ) := by
  refine ⟨S.1.ext E, fun x hx => ?_, ?_⟩
  · rcases List.mem_cons.mp hx with rfl | q
    · exact ⟨S.size, c, hc, hP⟩
    · exact (S.ext E).2.1 x q
  · rw [List.map_cons, List.nodup_cons]
    refine ⟨fun q => ?_, S.2.2⟩
    obtain ⟨x, hx, e⟩ := List.mem_map.mp q
    obtain ⟨-, c', hc', -⟩ := S.2.1 x hx
    exact absurd e (Nat.ne_of_lt (Array.getElem?_eq_some_iff.mp hc').1)
theorem Sep.perm (S : Sep Z n0 h σ) (hp : σ.Perm σ') : Sep Z n0 h σ' := ⟨S.1, fun x hx => S.2.1 x (hp.mem_iff.mpr hx), (hp.map (fun x => x.1)).nodup_iff.mp S.2.2⟩
theorem Sep.pull {x : Addr × (Cell → Prop)} (S : Sep Z n0 h σ) (hi : σ[i]? = some x) : Sep Z n0 h (x :: σ.eraseIdx i) := by
  obtain ⟨l1, e1⟩ := List.getElem?_eq_some_iff.mp hi
  subst e1
  refine S.perm ?_
  have e : σ = σ.take i ++ σ[i] :: σ.drop (i + 1) := by rw [← List.drop_eq_getElem_cons l1, List.take_append_drop]
  rw [List.eraseIdx_eq_take_drop_succ]
  conv => lhs; rw [e]
  exact List.perm_middle
theorem Sep.sub (S : Sep Z n0 h σ) (hs : σ'.Sublist σ) : Sep Z n0 h σ' := ⟨S.1, fun x hx => S.2.1 x (hs.subset hx), List.Nodup.sublist (hs.map (fun x => x.1)) S.2.2⟩
theorem ObjP.put {fs : List (String × String × String × Value)} {O nm ds : String} {old : Value} (H : ObjP Z C fs c) (hf : fs[j]? = some (O, nm, ds, old)) (q : h[a]? = some c) (W : Wr h h' a (RoadKit.slotOf Z O nm ds) v) : ObjP Z C (fs.set j (O, nm, ds, v)) (c.setSlot (RoadKit.slotOf Z O nm ds) v) := by
  obtain ⟨h1, h2, h3⟩ := H
  obtain ⟨c', e1, -, -, -, -, -, e7⟩ := wr_at W q
  have q' : h'[a]? = some (c.setSlot (RoadKit.slotOf Z O nm ds) v) := by rw [← (e7 rfl).1]; exact e1
  have hlt := (List.getElem?_eq_some_iff.mp hf).1
  refine ⟨exa_in ((exa_out h1 q).wr W) q', ?_, ?_⟩
  · intro f hfm
    obtain ⟨i, hi⟩ := List.mem_iff_getElem?.mp hfm
    by_cases hij : j = i
    · subst hij
      rw [List.getElem?_set_self hlt] at hi
      cases hi
      exact fld_in ((fld_out (h2 _ (List.mem_of_getElem? hf)) q).same W) q'
    · rw [List.getElem?_set_ne hij] at hi
      refine fld_in ((fld_out (h2 _ (List.mem_of_getElem? hi)) q).other W (Or.inr ?_)) q'
      obtain ⟨l1, r1⟩ := List.getElem?_eq_some_iff.mp hf
      obtain ⟨l2, r2⟩ := List.getElem?_eq_some_iff.mp hi
      have hN := List.pairwise_iff_getElem.mp h3
      rcases Nat.lt_or_gt_of_ne hij with z | z
      · have := hN j i l1 l2 z; rw [r1, r2] at this; exact fun y => this y.symm
      · have := hN i j l2 l1 z; rwa [r1, r2] at this
  · refine List.pairwise_iff_getElem.mpr fun i k hi hk hik => ?_
    have hN := List.pairwise_iff_getElem.mp h3
    have sl_eq : ∀ t (ht : t < (fs.set j (O, nm, ds, v)).length) (ht' : t < fs.length), RoadKit.slotOf Z (fs.set j (O, nm, ds, v))[t].1 (fs.set j (O, nm, ds, v))[t].2.1 (fs.set j (O, nm, ds, v))[t].2.2.1 = RoadKit.slotOf Z fs[t].1 fs[t].2.1 fs[t].2.2.1 := by
      intro t ht ht'
      rw [List.getElem_set]
      split
      · rename_i e; subst e
        have := (List.getElem?_eq_some_iff.mp hf).2
        rw [this]
      · rfl
    have hi' : i < fs.length := by simpa using hi
    have hk' : k < fs.length := by simpa using hk
    rw [sl_eq i hi hi', sl_eq k hk hk']
    exact hN i k hi' hk' hik
theorem laid_mem {a0 : Array Value} : ∀ {fs : List (String × String × String × Value)}, LaidL Z a0 C fs → ∀ f ∈ fs, Laid Z a0 C f.1 f.2.1 f.2.2.1 ∧ ∃ ty, parseFieldDescriptor f.2.2.1 = some ty ∧ f.2.2.2 = defaultValue ty
  | [], _, f, hf => nomatch hf
  | g :: fs, H, f, hf => by
    rcases List.mem_cons.mp hf with rfl | q
    · exact H.1
    · exact laid_mem H.2 f q
theorem laid_pair {a0 : Array Value} {fs : List (String × String × String × Value)} (H : LaidL Z a0 C fs) (hN : (fs.map (fun f => f.2.1)).Nodup) : fs.Pairwise (fun f f' => RoadKit.slotOf Z f.1 f.2.1 f.2.2.1 ≠ RoadKit.slotOf Z f'.1 f'.2.1 f'.2.2.1) := by
  refine List.pairwise_iff_getElem.mpr fun i j hi hj hij => ?_
  obtain ⟨L1, t1, p1, -⟩ := laid_mem H _ (List.getElem_mem hi)
  obtain ⟨L2, t2, p2, -⟩ := laid_mem H _ (List.getElem_mem hj)
  have hn := List.pairwise_iff_getElem.mp hN i j (by simpa using hi) (by simpa using hj) hij
  simp only [List.getElem_map] at hn
  exact RoadKit.slot_ne L1 L2 hn p1 p2
end Heap
section Rules2
variable {l : Launch} {Z : State} {n0 : Nat} {B : Bdy} {R : Room} {Q : Option Value → Asn → Prop} {cells slots : Nat} {σ : Asn} {pc pc' : Nat} {ls ls' : Array Slot} {st st' rest : List Value} {a0 : Array Value}
theorem W.conv {σ' : Asn} (hσ : ∀ h, Sep Z n0 h σ → Sep Z n0 h σ') (k : W l Z n0 B R Q cells slots σ' pc ls st) : W l Z n0 B R Q cells slots σ pc ls st :=
  fun p e s m args below meth c T locs C X N S => k p e s m args below meth c T locs C X N (hσ _ S)
theorem W.pull (τ : Asn) (i : Nat) {x : Addr × (Cell → Prop)} (hi : σ[i]? = some x) (hτ : σ.eraseIdx i = τ) (k : W l Z n0 B R Q cells slots (x :: τ) pc ls st) : W l Z n0 B R Q cells slots σ pc ls st := by
  subst hτ; exact W.conv (fun _ S => S.pull hi) k
def pulls : Asn → List Nat → Asn
  | σ, [] => σ
  | σ, i :: is => pulls (match σ[i]? with | some x => x :: σ.eraseIdx i | none => σ) is
theorem Sep.pulls {h : Heap} : ∀ (is : List Nat) (σ : Asn), Sep Z n0 h σ → Sep Z n0 h (pulls σ is)
  | [], σ, S => S
  | i :: is, σ, S => by
    refine Sep.pulls is _ ?_
    cases hx : σ[i]? with
    | none => exact S
    | some x => exact S.pull hx
theorem W.pulls (τ : Asn) (is : List Nat) (hτ : pulls σ is = τ) (k : W l Z n0 B R Q cells slots τ pc ls st) : W l Z n0 B R Q cells slots σ pc ls st := by
  subst hτ; exact W.conv (fun _ S => S.pulls is σ) k
theorem W.ne (i j : Nat) {a b : Addr} {P P' : Cell → Prop} (hi : σ[i]? = some (a, P)) (hj : σ[j]? = some (b, P')) (hij : i ≠ j) (k : a ≠ b → W l Z n0 B R Q cells slots σ pc ls st) : W l Z n0 B R Q cells slots σ pc ls st :=
  fun p e s m args below meth c T locs C X N S => k (S.ne hi hj hij) p e s m args below meth c T locs C X N S
theorem W.of2 {σ' : Asn} {cells' slots' : Nat} (hstep : ∀ (p : Program) (e : Env) (s : State) (m : MethodId) (args : Array Value) (below : List Frame) (meth : Method) (c : Code) (T : State) (locs : List Loc), Cx p s m meth c Z B → Stand p l e R s m args below meth c T locs cells slots → Fr n0 locs → Sep Z n0 T.heap σ →
      ∃ (T' : State) (locs' : List Loc), Stand p l e R s m args below meth c T' locs' cells' slots' ∧ Fr n0 locs' ∧ Sep Z n0 T'.heap σ' ∧ ∀ t, Steps p.tables e below (T'.setTop (mkF m pc' ls' st')) t → Steps p.tables e below (T.setTop (mkF m pc ls st)) t)
    (k : W l Z n0 B R Q cells' slots' σ' pc' ls' st') : W l Z n0 B R Q cells slots σ pc ls st := by
  intro p e s m args below meth c T locs C X N S
  obtain ⟨T', locs', X', N', S', st⟩ := hstep p e s m args below meth c T locs C X N S
  obtain ⟨u, o, h1, h2⟩ := k p e s m args below meth c T' locs' C X' N' S'
  exact ⟨u, o, st u h1, h2⟩
theorem W.getF (i j : Nat) {idx : Nat} {a : Addr} {C R0 O n d host : String} {fs : List (String × String × String × Value)} {v : Value} (hd : decode B.2.2.1 pc = .ok (.getfield idx, 3)) (w : (Jvm.Cond.fieldLink B.1 idx R0 n d).before a0 Z = true ∨ (Jvm.Cond.fieldLinkNest B.1 idx R0 n d host).before a0 Z = true) (via : Via Z R0 O n d)
    (hi : σ[i]? = some (a, ObjP Z C fs)) (hf : fs[j]? = some (O, n, d, v)) (hp : pc + 3 = pc') (k : W l Z n0 B R Q cells slots σ pc' ls (v :: st)) : W l Z n0 B R Q cells slots σ pc ls (.ref a :: st) := by
  subst hp
  refine W.of2 (fun p e s m args below meth c T locs ⟨hx, hby, hml, hown, hnm, hZ, hrt, hlk⟩ X N S => ?_) k
  obtain ⟨-, c1, hc1, H⟩ := S.get hi
  obtain ⟨T', X', e', st'⟩ := RoadKit.getF X hx hZ hown w via rfl (fld_out (H.2.1 _ (List.mem_of_getElem? hf)) hc1) (g := mkF m pc ls (.ref a :: st)) rfl rfl (hb hby hd)
  exact ⟨T', locs, X', N, by rw [e']; exact S, st'⟩
theorem W.putF (σ' : Asn) (i j : Nat) {idx kk : Nat} {a : Addr} {C R0 O n d host : String} {ty : FieldType} {fs : List (String × String × String × Value)} {v old : Value} (hd : decode B.2.2.1 pc = .ok (.putfield idx, 3)) (w : (Jvm.Cond.fieldLink B.1 idx R0 n d).before a0 Z = true ∨ (Jvm.Cond.fieldLinkNest B.1 idx R0 n d host).before a0 Z = true) (via : Via Z R0 O n d)
    (L : (Jvm.Cond.lays C O n d).before a0 Z = true ∨ ((Jvm.Cond.laysFinal C O n d).before a0 Z = true ∧ B.1 = O ∧ B.2.1 = "<init>")) (wi : (Jvm.Cond.instantiable C kk).before a0 Z = true) (hty : parseFieldDescriptor d = some ty) (hn : narrow ty v = v) (hft : fits ty v = true)
    (hi : σ[i]? = some (a, ObjP Z C fs)) (hf : fs[j]? = some (O, n, d, old)) (hσ : σ.set i (a, ObjP Z C (fs.set j (O, n, d, v))) = σ') (hp : pc + 3 = pc') (k : W l Z n0 B R Q cells slots σ' pc' ls st) : W l Z n0 B R Q cells slots σ pc ls (v :: .ref a :: st) := by
  subst hp hσ
  refine W.of2 (fun p e s m args below meth c T locs ⟨hx, hby, hml, hown, hnm, hZ, hrt, hlk⟩ X N S => ?_) k
  obtain ⟨ha, c1, hc1, H⟩ := S.get hi
  obtain ⟨T', h', X', e', Wr', st'⟩ := RoadKit.putF X hx hZ hown w via rfl (fld_out (H.2.1 _ (List.mem_of_getElem? hf)) hc1) (exa_out H.1 hc1) (L.imp id (fun q => ⟨q.1, q.2.1, hnm.trans q.2.2⟩)) wi hty hn hft (g := mkF m pc ls (v :: .ref a :: st)) rfl rfl (hb hby hd)
  exact ⟨T', _, X', Fr.snoc X' N ha, by rw [e']; exact S.set hi Wr' (fun c2 hc2 H2 => H2.put hf hc2 Wr'), st'⟩
theorem W.getS {idx : Nat} {R0 O n d : String} {v : Value} (hd : decode B.2.2.1 pc = .ok (.getstatic idx, 3)) (w : (Jvm.Cond.fieldLink B.1 idx R0 n d).before a0 Z = true) (via : Via Z R0 O n d) (F : Sta Z Z.heap O n d v) (hp : pc + 3 = pc') (k : W l Z n0 B R Q cells slots σ pc' ls (v :: st)) : W l Z n0 B R Q cells slots σ pc ls st := by
  subst hp
  refine W.of2 (fun p e s m args below meth c T locs ⟨hx, hby, hml, hown, hnm, hZ, hrt, hlk⟩ X N S => ?_) k
  obtain ⟨T', X', e', st'⟩ := RoadKit.getS (host := "") X hx hZ hown w via rfl (F.ext S.1.2) (g := mkF m pc ls st) rfl (hb hby hd)
  exact ⟨T', locs, X', N, by rw [e']; exact S, st'⟩
theorem W.new {idx kk : Nat} {C : String} (fs : List (String × String × String × Value)) (hd : decode B.2.2.1 pc = .ok (.new idx, 3)) (w : (Jvm.Cond.classLink B.1 idx C).before a0 Z = true) (wi : (Jvm.Cond.instantiable C kk).before a0 Z = true) (wz : (Jvm.Cond.initialized C).before a0 Z = true)
    (hL : LaidL Z a0 C fs) (hN : (fs.map (fun f => f.2.1)).Nodup) (hc : cells + 1 ≤ R.cells) (hs : slots + kk ≤ R.slots) (hp : pc + 3 = pc') (k : ∀ a, W l Z n0 B R Q (cells + 1) (slots + kk) ((a, ObjP Z C fs) :: σ) pc' ls (.ref a :: st)) : W l Z n0 B R Q cells slots σ pc ls st := by
  subst hp
  intro p e s m args below meth c T locs C0 X N S
  obtain ⟨hx, hby, hml, hown, hnm, hZ, hrt, hlk⟩ := C0
  obtain ⟨T2, h2, X2, e2, E2, A2, D2, ⟨cl, hcl, -, -⟩, st2⟩ := RoadKit.newO X hx hZ hown w wi wz rfl (g := mkF m pc ls st) rfl (hb hby hd) hc hs
  have S2 : Sep Z n0 h2 ((T.heap.size, ObjP Z C fs) :: σ) := by
    refine S.new E2 hcl ⟨exa_in A2 hcl, fun f hf => ?_, laid_pair hL hN⟩
    obtain ⟨L1, ty, q1, q2⟩ := laid_mem hL f hf
    rw [q2]
    exact fld_in (D2 L1 q1) hcl
  obtain ⟨u, o, h1, h3⟩ := k T.heap.size p e s m args below meth c T2 locs ⟨hx, hby, hml, hown, hnm, hZ, hrt, hlk⟩ X2 N (by rw [e2]; exact S2)
  exact ⟨u, o, st2 u h1, h3⟩
theorem newA_list (cA : ClassId) (ty : FieldType) (n : Int32) : (newA cA ty n).slots.toList = List.replicate n.toNatClampNeg (defaultValue ty) := by simp [newA]
theorem W.newI (N : Nat) {aty : ArrayType} {n : Int32} (cap : Nat) (hd : decode B.2.2.1 pc = .ok (.newarray aty, 2)) (w : (Jvm.Cond.arrayClass (newarray.typeOf aty)).before a0 Z = true) (hdef : defaultValue (newarray.typeOf aty) = .int 0) (hn : ¬ n < 0) (hN : n.toNatClampNeg = N) (hcap : N ≤ cap) (h8 : cap * 8 ≤ 536870912)
    (hc : cells + 1 ≤ R.cells) (hs : slots + cap ≤ R.slots) (hp : pc + 2 = pc') (k : ∀ a, W l Z n0 B R Q (cells + 1) (slots + cap) ((a, IA Z (newarray.typeOf aty) (List.replicate N 0)) :: σ) pc' ls (.ref a :: st)) : W l Z n0 B R Q cells slots σ pc ls (.int n :: st) := by
  subst hp hN
  intro p e s m args below meth c T locs C0 X N S
  obtain ⟨hx, hby, hml, hown, hnm, hZ, hrt, hlk⟩ := C0
  obtain ⟨T2, h2, cA, X2, e2, E2, A2, st2⟩ := RoadKit.newP X hx hZ w rfl (g := mkF m pc ls (.int n :: st)) rfl (hb hby hd) rfl hn hcap h8 hc hs
  have S2 := S.new (P := IA Z (newarray.typeOf aty) (List.replicate n.toNatClampNeg 0)) E2 A2.1 ⟨A2.2.1, A2.2.2, by rw [newA_list, hdef, List.map_replicate]⟩
  obtain ⟨u, o, h1, h3⟩ := k T.heap.size p e s m args below meth c T2 locs ⟨hx, hby, hml, hown, hnm, hZ, hrt, hlk⟩ X2 N (by rw [e2]; exact S2)
  exact ⟨u, o, st2 u h1, h3⟩
theorem W.newJ (N : Nat) {n : Int32} (cap : Nat) (hd : decode B.2.2.1 pc = .ok (.newarray .long, 2)) (w : (Jvm.Cond.arrayClass .long).before a0 Z = true) (hn : ¬ n < 0) (hN : n.toNatClampNeg = N) (hcap : N ≤ cap) (h8 : cap * 8 ≤ 536870912)
    (hc : cells + 1 ≤ R.cells) (hs : slots + cap ≤ R.slots) (hp : pc + 2 = pc') (k : ∀ a, W l Z n0 B R Q (cells + 1) (slots + cap) ((a, LA Z (List.replicate N 0)) :: σ) pc' ls (.ref a :: st)) : W l Z n0 B R Q cells slots σ pc ls (.int n :: st) := by
  subst hp hN
  intro p e s m args below meth c T locs C0 X N S
  obtain ⟨hx, hby, hml, hown, hnm, hZ, hrt, hlk⟩ := C0
  obtain ⟨T2, h2, cA, X2, e2, E2, A2, st2⟩ := RoadKit.newP X hx hZ (aty := .long) w rfl (g := mkF m pc ls (.int n :: st)) rfl (hb hby hd) rfl hn hcap h8 hc hs
  have S2 := S.new (P := LA Z (List.replicate n.toNatClampNeg 0)) E2 A2.1 ⟨A2.2.1, A2.2.2, by rw [newA_list, List.map_replicate]; rfl⟩
  obtain ⟨u, o, h1, h3⟩ := k T.heap.size p e s m args below meth c T2 locs ⟨hx, hby, hml, hown, hnm, hZ, hrt, hlk⟩ X2 N (by rw [e2]; exact S2)
  exact ⟨u, o, st2 u h1, h3⟩
theorem slot_get {c : Cell} {vs : List Value} {n : Nat} {v : Value} (h : c.slots.toList = vs) (hv : vs[n]? = some v) : c.slots[n]? = some v ∧ n < c.slots.size := by
  have e : c.slots[n]? = some v := by rw [← Array.getElem?_toList, h]; exact hv
  exact ⟨e, (Array.getElem?_eq_some_iff.mp e).1⟩
theorem slot_set {c : Cell} {vs : List Value} (h : c.slots.toList = vs) (n : Nat) (v : Value) : (c.setSlot n v).slots.toList = vs.set n v := by rw [← h]; simp [Cell.setSlot]
theorem slot_in {c : Cell} {n : Nat} {j : Int32} (h0 : ¬ j < 0) (hn : j.toNatClampNeg = n) (h : n < c.slots.size) : ¬ (j < 0 ∨ c.slots.size ≤ j.toNatClampNeg) := by rw [hn]; exact fun q => q.elim h0 (fun z => by omega)
theorem W.iaload (i n : Nat) {a : Addr} {xs : List Int32} {j : Int32} {x : Int32} (hd : decode B.2.2.1 pc = .ok (.iaload, 1)) (hi : σ[i]? = some (a, IA Z .int xs)) (h0 : ¬ j < 0) (hn : j.toNatClampNeg = n) (hx : xs[n]? = some x) (hp : pc + 1 = pc') (k : W l Z n0 B R Q cells slots σ pc' ls (.int x :: st)) : W l Z n0 B R Q cells slots σ pc ls (.int j :: .ref a :: st) := by
  subst hp
  refine W.of2 (fun p e s m args below meth c T locs ⟨hx', hby, hml, hown, hnm, hZ, hrt, hlk⟩ X N S => ?_) k
  obtain ⟨-, c1, hc1, H1, H2, H3⟩ := S.get hi
  obtain ⟨g1, g2⟩ := slot_get (n := n) (v := .int x) H3 (by rw [List.getElem?_map, hx]; rfl)
  exact ⟨T, locs, X, N, S, fun t ht => X.iaload hx' hc1 (State.isArrayOf_alike hZ.alike H1) H2 (slot_in h0 hn g2) (by rw [hn]; exact g1) (g := mkF m pc ls (.int j :: .ref a :: st)) rfl rfl (hb hby hd) t ht⟩
theorem W.caload (i n : Nat) {a : Addr} {xs : List Int32} {j : Int32} {x : Int32} (hd : decode B.2.2.1 pc = .ok (.caload, 1)) (hi : σ[i]? = some (a, IA Z .char xs)) (h0 : ¬ j < 0) (hn : j.toNatClampNeg = n) (hx : xs[n]? = some x) (hp : pc + 1 = pc') (k : W l Z n0 B R Q cells slots σ pc' ls (.int x :: st)) : W l Z n0 B R Q cells slots σ pc ls (.int j :: .ref a :: st) := by
  subst hp
  refine W.of2 (fun p e s m args below meth c T locs ⟨hx', hby, hml, hown, hnm, hZ, hrt, hlk⟩ X N S => ?_) k
  obtain ⟨-, c1, hc1, H1, H2, H3⟩ := S.get hi
  obtain ⟨g1, g2⟩ := slot_get (n := n) (v := .int x) H3 (by rw [List.getElem?_map, hx]; rfl)
  exact ⟨T, locs, X, N, S, fun t ht => X.caload hx' hc1 (State.isArrayOf_alike hZ.alike H1) H2 (slot_in h0 hn g2) (by rw [hn]; exact g1) (g := mkF m pc ls (.int j :: .ref a :: st)) rfl rfl (hb hby hd) t ht⟩
theorem W.baload (i n : Nat) {a : Addr} {xs : List Int32} {j : Int32} {x : Int32} (hd : decode B.2.2.1 pc = .ok (.baload, 1)) (hi : σ[i]? = some (a, IA Z .byte xs)) (h0 : ¬ j < 0) (hn : j.toNatClampNeg = n) (hx : xs[n]? = some x) (hp : pc + 1 = pc') (k : W l Z n0 B R Q cells slots σ pc' ls (.int x :: st)) : W l Z n0 B R Q cells slots σ pc ls (.int j :: .ref a :: st) := by
  subst hp
  refine W.of2 (fun p e s m args below meth c T locs ⟨hx', hby, hml, hown, hnm, hZ, hrt, hlk⟩ X N S => ?_) k
  obtain ⟨-, c1, hc1, H1, H2, H3⟩ := S.get hi
  obtain ⟨g1, g2⟩ := slot_get (n := n) (v := .int x) H3 (by rw [List.getElem?_map, hx]; rfl)
  exact ⟨T, locs, X, N, S, fun t ht => X.baloadBytes hx' hc1 (State.isArrayOf_alike hZ.alike H1) H2 (slot_in h0 hn g2) (by rw [hn]; exact g1) (g := mkF m pc ls (.int j :: .ref a :: st)) rfl rfl (hb hby hd) t ht⟩
theorem W.zaload (i n : Nat) {a : Addr} {xs : List Int32} {j : Int32} {x : Int32} (hd : decode B.2.2.1 pc = .ok (.baload, 1)) (hi : σ[i]? = some (a, IA Z .boolean xs)) (h0 : ¬ j < 0) (hn : j.toNatClampNeg = n) (hx : xs[n]? = some x) (hp : pc + 1 = pc') (k : W l Z n0 B R Q cells slots σ pc' ls (.int x :: st)) : W l Z n0 B R Q cells slots σ pc ls (.int j :: .ref a :: st) := by
  subst hp
  refine W.of2 (fun p e s m args below meth c T locs ⟨hx', hby, hml, hown, hnm, hZ, hrt, hlk⟩ X N S => ?_) k
  obtain ⟨-, c1, hc1, H1, H2, H3⟩ := S.get hi
  obtain ⟨g1, g2⟩ := slot_get (n := n) (v := .int x) H3 (by rw [List.getElem?_map, hx]; rfl)
  exact ⟨T, locs, X, N, S, fun t ht => X.baloadBooleans hx' hc1 (State.isArrayOf_alike hZ.alike H1) H2 (slot_in h0 hn g2) (by rw [hn]; exact g1) (g := mkF m pc ls (.int j :: .ref a :: st)) rfl rfl (hb hby hd) t ht⟩
theorem W.laload (i n : Nat) {a : Addr} {xs : List Int64} {j : Int32} {x : Int64} (hd : decode B.2.2.1 pc = .ok (.laload, 1)) (hi : σ[i]? = some (a, LA Z xs)) (h0 : ¬ j < 0) (hn : j.toNatClampNeg = n) (hx : xs[n]? = some x) (hp : pc + 1 = pc') (k : W l Z n0 B R Q cells slots σ pc' ls (.long x :: st)) : W l Z n0 B R Q cells slots σ pc ls (.int j :: .ref a :: st) := by
  subst hp
  refine W.of2 (fun p e s m args below meth c T locs ⟨hx', hby, hml, hown, hnm, hZ, hrt, hlk⟩ X N S => ?_) k
  obtain ⟨-, c1, hc1, H1, H2, H3⟩ := S.get hi
  obtain ⟨g1, g2⟩ := slot_get (n := n) (v := .long x) H3 (by rw [List.getElem?_map, hx]; rfl)
  exact ⟨T, locs, X, N, S, fun t ht => X.laload hx' hc1 (State.isArrayOf_alike hZ.alike H1) H2 (slot_in h0 hn g2) (by rw [hn]; exact g1) (g := mkF m pc ls (.int j :: .ref a :: st)) rfl rfl (hb hby hd) t ht⟩
theorem W.iastore (σ' : Asn) (i n : Nat) {a : Addr} {xs : List Int32} {j : Int32} {x : Int32} (hd : decode B.2.2.1 pc = .ok (.iastore, 1)) (hi : σ[i]? = some (a, IA Z .int xs)) (h0 : ¬ j < 0) (hn : j.toNatClampNeg = n) (hx : n < xs.length) (hσ : σ.set i (a, IA Z .int (xs.set n (x))) = σ') (hp : pc + 1 = pc') (k : W l Z n0 B R Q cells slots σ' pc' ls st) : W l Z n0 B R Q cells slots σ pc ls (.int x :: .int j :: .ref a :: st) := by
  subst hp hσ
  refine W.of2 (fun p e s m args below meth c T locs ⟨hx', hby, hml, hown, hnm, hZ, hrt, hlk⟩ X N S => ?_) k
  obtain ⟨ha, c1, hc1, H1, H2, H3⟩ := S.get hi
  have g2 : n < c1.slots.size := by rw [← Array.length_toList, H3, List.length_map]; exact hx
  obtain ⟨T', h', X', e', W', st'⟩ := RoadKit.stI X hx' hZ rfl ⟨hc1, H1, H2⟩ (slot_in h0 hn g2) (g := mkF m pc ls (.int x :: .int j :: .ref a :: st)) rfl rfl (hb hby hd)
  rw [hn] at W'
  refine ⟨T', _, X', Fr.snoc X' N ha, ?_, st'⟩
  rw [e']
  exact S.set hi W' (fun c2 hc2 H => ⟨H.1, H.2.1, by rw [slot_set H.2.2, List.map_set]⟩)
theorem W.castore (σ' : Asn) (i n : Nat) {a : Addr} {xs : List Int32} {j : Int32} {x : Int32} (hd : decode B.2.2.1 pc = .ok (.castore, 1)) (hi : σ[i]? = some (a, IA Z .char xs)) (h0 : ¬ j < 0) (hn : j.toNatClampNeg = n) (hx : n < xs.length) (hσ : σ.set i (a, IA Z .char (xs.set n (nar .char x))) = σ') (hp : pc + 1 = pc') (k : W l Z n0 B R Q cells slots σ' pc' ls st) : W l Z n0 B R Q cells slots σ pc ls (.int x :: .int j :: .ref a :: st) := by
  subst hp hσ
  refine W.of2 (fun p e s m args below meth c T locs ⟨hx', hby, hml, hown, hnm, hZ, hrt, hlk⟩ X N S => ?_) k
  obtain ⟨ha, c1, hc1, H1, H2, H3⟩ := S.get hi
  have g2 : n < c1.slots.size := by rw [← Array.length_toList, H3, List.length_map]; exact hx
  obtain ⟨T', h', X', e', W', st'⟩ := RoadKit.stC X hx' hZ rfl ⟨hc1, H1, H2⟩ (slot_in h0 hn g2) (g := mkF m pc ls (.int x :: .int j :: .ref a :: st)) rfl rfl (hb hby hd)
  rw [hn] at W'
  refine ⟨T', _, X', Fr.snoc X' N ha, ?_, st'⟩
  rw [e']
  exact S.set hi W' (fun c2 hc2 H => ⟨H.1, H.2.1, by rw [slot_set H.2.2, List.map_set]⟩)
theorem W.bastore (σ' : Asn) (i n : Nat) {a : Addr} {xs : List Int32} {j : Int32} {x : Int32} (hd : decode B.2.2.1 pc = .ok (.bastore, 1)) (hi : σ[i]? = some (a, IA Z .byte xs)) (h0 : ¬ j < 0) (hn : j.toNatClampNeg = n) (hx : n < xs.length) (hσ : σ.set i (a, IA Z .byte (xs.set n (nar .byte x))) = σ') (hp : pc + 1 = pc') (k : W l Z n0 B R Q cells slots σ' pc' ls st) : W l Z n0 B R Q cells slots σ pc ls (.int x :: .int j :: .ref a :: st) := by
  subst hp hσ
  refine W.of2 (fun p e s m args below meth c T locs ⟨hx', hby, hml, hown, hnm, hZ, hrt, hlk⟩ X N S => ?_) k
  obtain ⟨ha, c1, hc1, H1, H2, H3⟩ := S.get hi
  have g2 : n < c1.slots.size := by rw [← Array.length_toList, H3, List.length_map]; exact hx
  obtain ⟨T', h', X', e', W', st'⟩ := RoadKit.stB X hx' hZ rfl ⟨hc1, H1, H2⟩ (slot_in h0 hn g2) (g := mkF m pc ls (.int x :: .int j :: .ref a :: st)) rfl rfl (hb hby hd)
  rw [hn] at W'
  refine ⟨T', _, X', Fr.snoc X' N ha, ?_, st'⟩
  rw [e']
  exact S.set hi W' (fun c2 hc2 H => ⟨H.1, H.2.1, by rw [slot_set H.2.2, List.map_set]⟩)
theorem W.zastore (σ' : Asn) (i n : Nat) {a : Addr} {xs : List Int32} {j : Int32} {x : Int32} (hd : decode B.2.2.1 pc = .ok (.bastore, 1)) (hi : σ[i]? = some (a, IA Z .boolean xs)) (h0 : ¬ j < 0) (hn : j.toNatClampNeg = n) (hx : n < xs.length) (hσ : σ.set i (a, IA Z .boolean (xs.set n (nar .boolean x))) = σ') (hp : pc + 1 = pc') (k : W l Z n0 B R Q cells slots σ' pc' ls st) : W l Z n0 B R Q cells slots σ pc ls (.int x :: .int j :: .ref a :: st) := by
  subst hp hσ
  refine W.of2 (fun p e s m args below meth c T locs ⟨hx', hby, hml, hown, hnm, hZ, hrt, hlk⟩ X N S => ?_) k
  obtain ⟨ha, c1, hc1, H1, H2, H3⟩ := S.get hi
  have g2 : n < c1.slots.size := by rw [← Array.length_toList, H3, List.length_map]; exact hx
  obtain ⟨T', h', X', e', W', st'⟩ := RoadKit.stZ X hx' hZ rfl ⟨hc1, H1, H2⟩ (slot_in h0 hn g2) (g := mkF m pc ls (.int x :: .int j :: .ref a :: st)) rfl rfl (hb hby hd)
  rw [hn] at W'
  refine ⟨T', _, X', Fr.snoc X' N ha, ?_, st'⟩
  rw [e']
  exact S.set hi W' (fun c2 hc2 H => ⟨H.1, H.2.1, by rw [slot_set H.2.2, List.map_set]⟩)
theorem W.lastore (σ' : Asn) (i n : Nat) {a : Addr} {xs : List Int64} {j : Int32} {x : Int64} (hd : decode B.2.2.1 pc = .ok (.lastore, 1)) (hi : σ[i]? = some (a, LA Z xs)) (h0 : ¬ j < 0) (hn : j.toNatClampNeg = n) (hx : n < xs.length) (hσ : σ.set i (a, LA Z (xs.set n (x))) = σ') (hp : pc + 1 = pc') (k : W l Z n0 B R Q cells slots σ' pc' ls st) : W l Z n0 B R Q cells slots σ pc ls (.long x :: .int j :: .ref a :: st) := by
  subst hp hσ
  refine W.of2 (fun p e s m args below meth c T locs ⟨hx', hby, hml, hown, hnm, hZ, hrt, hlk⟩ X N S => ?_) k
  obtain ⟨ha, c1, hc1, H1, H2, H3⟩ := S.get hi
  have g2 : n < c1.slots.size := by rw [← Array.length_toList, H3, List.length_map]; exact hx
  obtain ⟨T', h', X', e', W', st'⟩ := RoadKit.stJ X hx' hZ rfl ⟨hc1, H1, H2⟩ (slot_in h0 hn g2) (g := mkF m pc ls (.long x :: .int j :: .ref a :: st)) rfl rfl (hb hby hd)
  rw [hn] at W'
  refine ⟨T', _, X', Fr.snoc X' N ha, ?_, st'⟩
  rw [e']
  exact S.set hi W' (fun c2 hc2 H => ⟨H.1, H.2.1, by rw [slot_set H.2.2, List.map_set]⟩)
theorem W.len (i : Nat) {a : Addr} {ty : FieldType} {xs : List Int32} (v : Int32) (hd : decode B.2.2.1 pc = .ok (.arraylength, 1)) (hi : σ[i]? = some (a, IA Z ty xs)) (hv : xs.length.toInt32 = v) (hp : pc + 1 = pc') (k : W l Z n0 B R Q cells slots σ pc' ls (.int v :: st)) : W l Z n0 B R Q cells slots σ pc ls (.ref a :: st) := by
  subst hp hv
  refine W.of2 (fun p e s m args below meth c T locs ⟨hx, hby, hml, hown, hnm, hZ, hrt, hlk⟩ X N S => ?_) k
  obtain ⟨-, c1, hc1, H1, H2, H3⟩ := S.get hi
  refine ⟨T, locs, X, N, S, fun t ht => X.arraylength hx hc1 (State.isArrayOf_alike hZ.alike H1) (g := mkF m pc ls (.ref a :: st)) rfl rfl (hb hby hd) t ?_⟩
  have e : c1.slots.size = xs.length := by rw [← Array.length_toList, H3, List.length_map]
  rw [e]; exact ht
theorem W.lenJ (i : Nat) {a : Addr} {xs : List Int64} (v : Int32) (hd : decode B.2.2.1 pc = .ok (.arraylength, 1)) (hi : σ[i]? = some (a, LA Z xs)) (hv : xs.length.toInt32 = v) (hp : pc + 1 = pc') (k : W l Z n0 B R Q cells slots σ pc' ls (.int v :: st)) : W l Z n0 B R Q cells slots σ pc ls (.ref a :: st) := by
  subst hp hv
  refine W.of2 (fun p e s m args below meth c T locs ⟨hx, hby, hml, hown, hnm, hZ, hrt, hlk⟩ X N S => ?_) k
  obtain ⟨-, c1, hc1, H1, H2, H3⟩ := S.get hi
  refine ⟨T, locs, X, N, S, fun t ht => X.arraylength hx hc1 (State.isArrayOf_alike hZ.alike H1) (g := mkF m pc ls (.ref a :: st)) rfl rfl (hb hby hd) t ?_⟩
  have e : c1.slots.size = xs.length := by rw [← Array.length_toList, H3, List.length_map]
  rw [e]; exact ht
theorem W.initO {i : Nat} {a : Addr} (hd : decode B.2.2.1 pc = .ok (.invokespecial i, 3)) (w1 : (Jvm.Cond.methodLink B.1 i Lib.objectInit).before a0 Z = true) (w2 : (Jvm.Cond.instanceMethod Lib.objectInit).before a0 Z = true) (w3 : (Jvm.Cond.code Lib.objectInit object_method_1_code 1 none).before a0 Z = true)
    (hsz : ls.size = B.2.2.2.1) (hf : 1 ≤ R.frames) (hl : (st.map fun v => v.category).sum + 12 ≤ R.locals) (hp : pc + 3 = pc') (k : W l Z n0 B R Q cells slots σ pc' ls st) : W l Z n0 B R Q cells slots σ pc ls (.ref a :: st) := by
  subst hp
  refine W.of2 (fun p e s m args below meth c T locs ⟨hx, hby, hml, hown, hnm, hZ, hrt, hlk⟩ X N S => ?_) k
  obtain ⟨T', X', e', st'⟩ := RoadKit.initO X hx hZ hown w1 w2 w3 rfl (g := mkF m pc ls (.ref a :: st)) rfl (by rw [hml]; exact hsz) rfl (hb hby hd) hf (W := (st.map fun v => v.category).sum) (by show 2 * 0 + _ ≤ _; omega) hl
  exact ⟨T', locs, X', N, by rw [e']; exact S, st'⟩
theorem W.callI {y : MethodName} {bytes : ByteArray} {maxL : Nat} {rm : Room} {a : Addr} {as : List Value} {Qc : Option Value → Asn → Prop} {i : Nat} {sg : MethodDescriptor} (hS : Sp l Z n0 y bytes maxL none rm (.ref a :: as) σ Qc)
    (hd : decode B.2.2.1 pc = .ok (.invokespecial i, 3)) (hy1 : y.name = "<init>") (w1 : (Jvm.Cond.methodLink B.1 i y).before a0 Z = true) (w2 : (Jvm.Cond.instanceMethod y).before a0 Z = true) (wz : (Jvm.Cond.initialized y.cls).before a0 Z = true) (wc : (Jvm.Cond.code y bytes maxL none).before a0 Z = true)
    (hy : y.cls ≠ "java/lang/invoke/MethodHandle" ∧ y.cls ≠ "java/lang/invoke/VarHandle") (hsg : parseMethodDescriptor y.desc = some sg) (hln : as.length = sg.parameters.length) (hst : st = as.reverse ++ .ref a :: rest)
    (hf : rm.frames + 1 ≤ R.frames) (hl : (rest.map fun v => v.category).sum + (maxL + 11) + rm.locals ≤ R.locals) (hc : cells + rm.cells ≤ R.cells) (hs : slots + rm.slots ≤ R.slots) (hsz : ls.size = B.2.2.2.1) (hp : pc + 3 = pc')
    (k : ∀ v σ', Qc v σ' → W l Z n0 B R Q (cells + rm.cells) (slots + rm.slots) σ' pc' ls (v.toList ++ rest)) : W l Z n0 B R Q cells slots σ pc ls st := by
  subst hp
  intro p e s m args below meth c T locs C X N S
  obtain ⟨hx, hby, hml, hown, hnm, hZ, hrt, hlk⟩ := C
  obtain ⟨v, _, ⟨T8, L8, k8, n8⟩, -, X8, ⟨Lc8, ⟨⟨σ', hQ8, hS8⟩, hF8⟩, l8, y8, z8⟩, st8⟩ := X.specialBack hx (y := y) hy1 hown (mvT hZ w1) (mvT hZ w2) (mvT hZ wc) hy (W.back (a0 := a0) hS S hZ wc wz hf hl) (g := (mkF m pc ls st)) rfl (by rw [hml]; exact hsz) (Steps.refl _) (a := a) (argsL := as) (rest := rest) (lenOf hsg hln) hst (by show 2 * 0 + _ ≤ _; omega) (hb hby hd) (fun _ _ => ⟨rfl, rfl, hc, hs⟩)
  dsimp only [Pt.U, Pt.locs, Pt.cells, Pt.slots] at X8 l8 y8 z8 st8 hS8
  subst l8 y8 z8
  obtain ⟨u, o, h1, h2⟩ := k v σ' hQ8 p e s m args below meth c T8 _ ⟨hx, hby, hml, hown, hnm, hZ, hrt, hlk⟩ X8 (N.app hF8) hS8
  exact ⟨u, o, st8.trans h1, h2⟩
theorem W.callV (j : Nat) {y : MethodName} {bytes : ByteArray} {maxL : Nat} {ret : Option FieldType} {rm : Room} {a : Addr} {C : String} {fs : List (String × String × String × Value)} {as : List Value} {Qc : Option Value → Asn → Prop} {i : Nat} {sg : MethodDescriptor} (hj : σ[j]? = some (a, ObjP Z C fs)) (hS : Sp l Z n0 y bytes maxL ret rm (.ref a :: as) σ Qc)
    (hd : decode B.2.2.1 pc = .ok (.invokevirtual i, 3)) (w1 : (Jvm.Cond.methodLink B.1 i y).before a0 Z = true) (wd : (Jvm.Cond.declares y).before a0 Z = true) (wsl : (Jvm.Cond.selects C y y).before a0 Z = true) (w2 : (Jvm.Cond.instanceMethod y).before a0 Z = true) (wz : (Jvm.Cond.initialized y.cls).before a0 Z = true) (wc : (Jvm.Cond.code y bytes maxL ret).before a0 Z = true) (hyc : C = y.cls)
    (hy : y.cls ≠ "java/lang/invoke/MethodHandle" ∧ y.cls ≠ "java/lang/invoke/VarHandle") (hsg : parseMethodDescriptor y.desc = some sg) (hln : as.length = sg.parameters.length) (hst : st = as.reverse ++ .ref a :: rest)
    (hf : rm.frames + 1 ≤ R.frames) (hl : (rest.map fun v => v.category).sum + (maxL + 11) + rm.locals ≤ R.locals) (hc : cells + rm.cells ≤ R.cells) (hs : slots + rm.slots ≤ R.slots) (hsz : ls.size = B.2.2.2.1) (hp : pc + 3 = pc')
    (k : ∀ v σ', Qc v σ' → W l Z n0 B R Q (cells + rm.cells) (slots + rm.slots) σ' pc' ls (v.toList ++ rest)) : W l Z n0 B R Q cells slots σ pc ls st := by
  subst hp hyc
  intro p e s m args below meth c T locs Cc X N S
  obtain ⟨hx, hby, hml, hown, hnm, hZ, hrt, hlk⟩ := Cc
  obtain ⟨-, c1, hc1, H⟩ := S.get hj
  obtain ⟨cq, kq, qa, qb, qc⟩ := isOf hZ rfl (exa_out H.1 hc1)
  obtain ⟨v, _, ⟨T8, L8, k8, n8⟩, -, X8, ⟨Lc8, ⟨⟨σ', hQ8, hS8⟩, hF8⟩, l8, y8, z8⟩, st8⟩ := X.virtualBack hx (y := y) (z := y) hown (mvT hZ w1) (mvT hZ wd) (notFace_of_selects (args := #[]) (mvT hZ wsl)) (mvT hZ wsl) (mvT hZ w2) hy (W.back (a0 := a0) hS S hZ wc wz hf hl) qa qc (g := (mkF m pc ls st)) rfl (by rw [hml]; exact hsz) (Steps.refl _) (argsL := as) (rest := rest) (lenOf hsg hln) hst (by show 2 * 0 + _ ≤ _; omega) (hb hby hd) (fun _ _ => ⟨rfl, rfl, hc, hs⟩)
  dsimp only [Pt.U, Pt.locs, Pt.cells, Pt.slots] at X8 l8 y8 z8 st8 hS8
  subst l8 y8 z8
  obtain ⟨u, o, h1, h2⟩ := k v σ' hQ8 p e s m args below meth c T8 _ ⟨hx, hby, hml, hown, hnm, hZ, hrt, hlk⟩ X8 (N.app hF8) hS8
  exact ⟨u, o, st8.trans h1, h2⟩
end Rules2
section Rules3
variable {l : Launch} {Z : State} {n0 : Nat} {B : Bdy} {R : Room} {Q : Option Value → Asn → Prop} {cells slots : Nat} {σ : Asn} {pc pc' : Nat} {ls ls' : Array Slot} {st st' rest : List Value} {a0 : Array Value}
theorem nar_ref {t : FieldType} {v : Value} (hv : v.isRef = true) : narrow t v = v := by rcases ref_cases hv with rfl | ⟨a, rfl⟩ <;> cases t <;> rfl
theorem fit_ref {n : String} {v : Value} (hv : v.isRef = true) : fits (.object n) v = true := by rcases ref_cases hv with rfl | ⟨a, rfl⟩ <;> rfl
theorem fit_refA {t : FieldType} {v : Value} (hv : v.isRef = true) : fits (.array t) v = true := by rcases ref_cases hv with rfl | ⟨a, rfl⟩ <;> rfl
theorem W.drop (τ : Asn) (i : Nat) (hτ : σ.eraseIdx i = τ) (k : W l Z n0 B R Q cells slots τ pc ls st) : W l Z n0 B R Q cells slots σ pc ls st := by
  subst hτ; exact W.conv (fun _ S => S.sub (List.eraseIdx_sublist σ i)) k
theorem Sep.imp {h : Heap} {i : Nat} {a : Addr} {P P' : Cell → Prop} (S : Sep Z n0 h σ) (hi : σ[i]? = some (a, P)) (hP : ∀ c, P c → P' c) : Sep Z n0 h (σ.set i (a, P')) := by
  refine ⟨S.1, ?_, ?_⟩
  · intro x hx
    obtain ⟨j, hj⟩ := List.mem_iff_getElem?.mp hx
    by_cases hij : i = j
    · subst hij
      rw [List.getElem?_set_self (List.getElem?_eq_some_iff.mp hi).1] at hj
      cases hj
      obtain ⟨q1, c, q2, q3⟩ := S.get hi
      exact ⟨q1, c, q2, hP c q3⟩
    · rw [List.getElem?_set_ne hij] at hj
      exact S.2.1 x (List.mem_of_getElem? hj)
  · have e : (σ.set i (a, P')).map (fun x => x.1) = σ.map (fun x => x.1) := by
      apply List.ext_getElem?
      intro j
      simp only [List.getElem?_map]
      by_cases hij : i = j
      · subst hij
        rw [List.getElem?_set_self (List.getElem?_eq_some_iff.mp hi).1, hi]; rfl
      · rw [List.getElem?_set_ne hij]
    rw [e]; exact S.2.2
theorem ObjP.sub {C : String} {fs fs' : List (String × String × String × Value)} {c : Cell} (H : ObjP Z C fs c) (hs : fs'.Sublist fs) : ObjP Z C fs' c := ⟨H.1, fun f hf => H.2.1 f (hs.subset hf), H.2.2.sublist hs⟩
theorem W.fewer (σ' : Asn) (i : Nat) {a : Addr} {C : String} {fs fs' : List (String × String × String × Value)} (hi : σ[i]? = some (a, ObjP Z C fs)) (hs : fs'.Sublist fs) (hσ : σ.set i (a, ObjP Z C fs') = σ') (k : W l Z n0 B R Q cells slots σ' pc ls st) : W l Z n0 B R Q cells slots σ pc ls st := by
  subst hσ; exact W.conv (fun _ S => S.imp hi (fun c H => H.sub hs)) k
theorem flt_at {s : State} {args : Array Value} {own : String} {i : Nat} {b : UInt32} (hZ : Z.Warmed39 s.vm) (w : (Jvm.Cond.constantFloat own i b).before a0 Z = true) : (Jvm.Cond.constantFloat own i b).before args s = true :=
  constantFloat_same (s := Z.setVm s.vm) (s' := s) (args' := args) rfl ((Cond.constantFloat_setVm hZ.alike own i b).trans w)
theorem W.ldcF {i : Nat} {b : UInt32} (hd : decode B.2.2.1 pc = .ok (.ldc i, 2)) (w : (Jvm.Cond.constantFloat B.1 i b).before a0 Z = true) (hp : pc + 2 = pc') (k : W l Z n0 B R Q cells slots σ pc' ls (.float b :: st)) : W l Z n0 B R Q cells slots σ pc ls st := by
  subst hp; exact W.of (fun p e s m args below meth c T locs C X t h => X.ldcFloatC C.1 C.2.2.2.1 (flt_at C.2.2.2.2.2.1 w) (g := mkF m pc ls st) rfl (hb C.2.1 hd) t h) k
theorem W.callP (j : Nat) {y : MethodName} {bytes : ByteArray} {maxL : Nat} {ret : Option FieldType} {rm : Room} {a : Addr} {C : String} {fs : List (String × String × String × Value)} {as : List Value} {Qc : Option Value → Asn → Prop} {i kk : Nat} {sg : MethodDescriptor} (hj : σ[j]? = some (a, ObjP Z C fs)) (hS : Sp l Z n0 y bytes maxL ret rm (.ref a :: as) σ Qc)
    (hd : decode B.2.2.1 pc = .ok (.invokevirtual i, 3)) (w1 : (Jvm.Cond.methodLink B.1 i y).before a0 Z = true) (w2 : (Jvm.Cond.instanceMethod y).before a0 Z = true) (wp : (Jvm.Cond.privateMethod y).before a0 Z = true) (wi : (Jvm.Cond.instantiable y.cls kk).before a0 Z = true) (wz : (Jvm.Cond.initialized y.cls).before a0 Z = true) (wc : (Jvm.Cond.code y bytes maxL ret).before a0 Z = true)
    (hy : y.cls ≠ "java/lang/invoke/MethodHandle" ∧ y.cls ≠ "java/lang/invoke/VarHandle") (hsg : parseMethodDescriptor y.desc = some sg) (hln : as.length = sg.parameters.length) (hst : st = as.reverse ++ .ref a :: rest)
    (hf : rm.frames + 1 ≤ R.frames) (hl : (rest.map fun v => v.category).sum + (maxL + 11) + rm.locals ≤ R.locals) (hc : cells + rm.cells ≤ R.cells) (hs : slots + rm.slots ≤ R.slots) (hsz : ls.size = B.2.2.2.1) (hp : pc + 3 = pc')
    (k : ∀ v σ', Qc v σ' → W l Z n0 B R Q (cells + rm.cells) (slots + rm.slots) σ' pc' ls (v.toList ++ rest)) : W l Z n0 B R Q cells slots σ pc ls st := by
  subst hp
  intro p e s m args below meth c T locs Cc X N S
  obtain ⟨hx, hby, hml, hown, hnm, hZ, hrt, hlk⟩ := Cc
  obtain ⟨-, c1, hc1, H⟩ := S.get hj
  obtain ⟨c2, hc2, hc3⟩ := (exa_out H.1 hc1).cell
  cases hc1.symm.trans hc2
  have hpr : s.PrivateAt y := Cond.privateMethod_at (args := #[]) (mvP hZ wp)
  have hsel : (Jvm.Cond.selects y.cls y y).before args s = true := by
    obtain ⟨ci, ki, i1, i2, -, i4, -⟩ := Cond.instantiable_spec (mvT (args := args) hZ wi)
    exact selects_self_of_private i1 i2 (Bool.or_eq_false_iff.mp i4).1 hpr (mvT hZ w2) hy
  obtain ⟨v, _, ⟨T8, L8, k8, n8⟩, -, X8, ⟨Lc8, ⟨⟨σ', hQ8, hS8⟩, hF8⟩, l8, y8, z8⟩, st8⟩ := X.privateBack hx (y := y) hown (mvT hZ w1) (mvT hZ w2) hsel hpr (mvT hZ wc) hy (W.back (a0 := a0) hS S hZ wc wz hf hl) (g := (mkF m pc ls st)) rfl (by rw [hml]; exact hsz) (Steps.refl _) (a := a) hc1 hc3 (argsL := as) (rest := rest) (lenOf hsg hln) hst (by show 2 * 0 + _ ≤ _; omega) (hb hby hd) (fun _ _ => ⟨rfl, rfl, hc, hs⟩)
  dsimp only [Pt.U, Pt.locs, Pt.cells, Pt.slots] at X8 l8 y8 z8 st8 hS8
  subst l8 y8 z8
  obtain ⟨u, o, h1, h2⟩ := k v σ' hQ8 p e s m args below meth c T8 _ ⟨hx, hby, hml, hown, hnm, hZ, hrt, hlk⟩ X8 (N.app hF8) hS8
  exact ⟨u, o, st8.trans h1, h2⟩
theorem W.callF (j : Nat) {xi y : MethodName} {bytes : ByteArray} {maxL : Nat} {ret : Option FieldType} {rm : Room} {a : Addr} {C : String} {fs : List (String × String × String × Value)} {as : List Value} {Qc : Option Value → Asn → Prop} {i ct : Nat} {sg : MethodDescriptor} (hj : σ[j]? = some (a, ObjP Z C fs)) (hS : Sp l Z n0 y bytes maxL ret rm (.ref a :: as) σ Qc)
    (hd : decode B.2.2.1 pc = .ok (.invokeinterface i ct, 5)) (w1 : (Jvm.Cond.methodLink B.1 i xi).before a0 Z = true) (wd : (Jvm.Cond.declares xi).before a0 Z = true) (wf : (Jvm.Cond.interfaceMethod xi.cls xi.cls xi.name xi.desc).before a0 Z = true) (wsl : (Jvm.Cond.selects C xi y).before a0 Z = true) (w2 : (Jvm.Cond.instanceMethod y).before a0 Z = true)
    (wp : (Jvm.Cond.publicMethod y).before a0 Z = true) (wu : (Jvm.Cond.unhidden C xi.name xi.desc).before a0 Z = true) (wcs : (Jvm.Cond.castable C xi.cls).before a0 Z = true) (wz : (Jvm.Cond.initialized y.cls).before a0 Z = true) (wc : (Jvm.Cond.code y bytes maxL ret).before a0 Z = true)
    (hy : xi.cls ≠ "java/lang/invoke/MethodHandle" ∧ xi.cls ≠ "java/lang/invoke/VarHandle") (hsg : parseMethodDescriptor xi.desc = some sg) (hln : as.length = sg.parameters.length) (hst : st = as.reverse ++ .ref a :: rest)
    (hf : rm.frames + 1 ≤ R.frames) (hl : (rest.map fun v => v.category).sum + (maxL + 11) + rm.locals ≤ R.locals) (hc : cells + rm.cells ≤ R.cells) (hs : slots + rm.slots ≤ R.slots) (hsz : ls.size = B.2.2.2.1) (hp : pc + 5 = pc')
    (k : ∀ v σ', Qc v σ' → W l Z n0 B R Q (cells + rm.cells) (slots + rm.slots) σ' pc' ls (v.toList ++ rest)) : W l Z n0 B R Q cells slots σ pc ls st := by
  subst hp
  intro p e s m args below meth c T locs Cc X N S
  obtain ⟨hx, hby, hml, hown, hnm, hZ, hrt, hlk⟩ := Cc
  obtain ⟨-, c1, hc1, H⟩ := S.get hj
  obtain ⟨cq, kq, qa, qb, qc⟩ := isOf hZ rfl (exa_out H.1 hc1)
  obtain ⟨v, _, ⟨T8, L8, k8, n8⟩, -, X8, ⟨Lc8, ⟨⟨σ', hQ8, hS8⟩, hF8⟩, l8, y8, z8⟩, st8⟩ := X.interfaceBack hx (xi := xi) (y := y) hown (mvT hZ w1) (mvT hZ wd) (mvT hZ wf (by simp [Cond.onTables, Cond.keepsFace, Cond.keeps, Cond.steady, Cond.faceAtom]; exact hy)) (mvT hZ wsl) (mvT hZ w2) (mvT hZ wp) (mvT hZ wu) (mvT hZ wcs) hy (W.back (a0 := a0) hS S hZ wc wz hf hl) qa qb qc (g := (mkF m pc ls st)) rfl (by rw [hml]; exact hsz) (Steps.refl _) (argsL := as) (rest := rest) (lenOf hsg hln) hst (by show 2 * 0 + _ ≤ _; omega) (hb hby hd) (fun _ _ => ⟨rfl, rfl, hc, hs⟩)
  dsimp only [Pt.U, Pt.locs, Pt.cells, Pt.slots] at X8 l8 y8 z8 st8 hS8
  subst l8 y8 z8
  obtain ⟨u, o, h1, h2⟩ := k v σ' hQ8 p e s m args below meth c T8 _ ⟨hx, hby, hml, hown, hnm, hZ, hrt, hlk⟩ X8 (N.app hF8) hS8
  exact ⟨u, o, st8.trans h1, h2⟩
end Rules3
section Rules4
variable {l : Launch} {Z : State} {n0 : Nat} {B : Bdy} {R : Room} {Q : Option Value → Asn → Prop} {cells slots : Nat} {σ : Asn} {pc pc' : Nat} {ls ls' : Array Slot} {st st' rest : List Value} {a0 : Array Value}
theorem Sep.keep1 {h h' : Heap} {j : Nat} {b : Addr} {P P' : Cell → Prop} {c' : Cell} (S : Sep Z n0 h σ) (hj : σ[j]? = some (b, P)) (K : Keep h h' [b]) (hc : h'[b]? = some c') (hP : P' c') : Sep Z n0 h' (σ.set j (b, P')) := by
  obtain ⟨hn, c, hc0, hp⟩ := S.get hj
  refine ⟨S.1.keep K (allS hn all0), ?_, ?_⟩
  · intro x hx
    obtain ⟨i, hi⟩ := List.mem_iff_getElem?.mp hx
    by_cases hij : j = i
    · subst hij
      rw [List.getElem?_set_self (List.getElem?_eq_some_iff.mp hj).1] at hi
      cases hi
      exact ⟨hn, c', hc, hP⟩
    · rw [List.getElem?_set_ne hij] at hi
      obtain ⟨xb, xP⟩ := x
      obtain ⟨hn2, c2, hc2, hp2⟩ := S.get hi
      have hne := S.ne hi hj (Ne.symm hij)
      exact ⟨hn2, c2, K.2.1 _ _ hc2 (ninS hne nin0), hp2⟩
  · have e : (σ.set j (b, P')).map (fun x => x.1) = σ.map (fun x => x.1) := by
      apply List.ext_getElem?
      intro i
      simp only [List.getElem?_map]
      by_cases hij : j = i
      · subst hij
        rw [List.getElem?_set_self (List.getElem?_eq_some_iff.mp hj).1, hj]; rfl
      · rw [List.getElem?_set_ne hij]
    rw [e]; exact S.2.2
theorem ofNat_nn {n : Nat} (h : n < 2 ^ 31) : ¬ Int32.ofNat n < 0 ∧ (Int32.ofNat n).toNatClampNeg = n := by
  have e : (Int32.ofNat n).toInt = n := Int32.toInt_ofNat_of_lt h
  refine ⟨fun q => ?_, ?_⟩
  · have h0 : (0 : Int32).toInt = 0 := by decide
    rw [Int32.lt_iff_toInt_lt, e, h0] at q; omega
  · simp only [Int32.toNatClampNeg, e]; omega
theorem ia_arv {h : Heap} {a : Addr} {c : Cell} {xs : List Int32} (hc : h[a]? = some c) (H : IA Z .int xs c) (hl : xs.length < 2 ^ 31) : Arv Z h a c.cls .int (Int32.ofNat xs.length) (xs.map Value.int) (.int 0) := by
  obtain ⟨H1, H2, H3⟩ := H
  have hs : c.slots.size = xs.length := by rw [← Array.length_toList, H3, List.length_map]
  have hg : ∀ k, k < c.slots.size → ∃ x, (xs.map Value.int).getD k (.int 0) = .int x ∧ c.slots[k]? = some (.int x) := by
    intro k hk
    have hk' : k < xs.length := by omega
    refine ⟨xs[k], by simp [List.getD_eq_getElem?_getD, hk'], ?_⟩
    exact (slot_get H3 (by rw [List.getElem?_map, List.getElem?_eq_getElem hk']; rfl)).1
  refine ⟨c, ⟨hc, H1, H2⟩, rfl, by rw [(ofNat_nn hl).2, hs], (ofNat_nn hl).1, fun k hk => ?_, fun k hk => ?_⟩
  · obtain ⟨x, e1, e2⟩ := hg k hk; rw [e1, e2]
  · obtain ⟨x, e1, -⟩ := hg k hk; rw [e1]; rfl
theorem W.copy1 (σ' : Asn) (i j d : Nat) {idx : Nat} {a b : Addr} {xs ys : List Int32} {x dp : Int32} (hd : decode B.2.2.1 pc = .ok (.invokestatic idx, 3)) (w1 : (Jvm.Cond.methodLink B.1 idx Jvm.Stand.acN).before a0 Z = true) (w2 : (Jvm.Cond.native Jvm.Stand.acN).before a0 Z = true) (w3 : (Jvm.Cond.static Jvm.Stand.acN).before a0 Z = true) (w4 : (Jvm.Cond.initialized "java/lang/System").before a0 Z = true)
    (hi : σ[i]? = some (a, IA Z .int xs)) (hj : σ[j]? = some (b, IA Z .int ys)) (hx : xs[0]? = some x) (h0 : ¬ dp < 0) (hdn : dp.toNatClampNeg = d) (hl : d < ys.length) (hxl : xs.length < 2 ^ 31) (hyl : ys.length < 2 ^ 31) (hσ : σ.set j (b, IA Z .int (ys.set d x)) = σ')
    (hsz : ls.size = B.2.2.2.1) (hf : 1 ≤ R.frames) (hlo : (st.map fun v => v.category).sum + 18 ≤ R.locals) (hp : pc + 3 = pc') (k : W l Z n0 B R Q cells slots σ' pc' ls st) : W l Z n0 B R Q cells slots σ pc ls (.int 1 :: .int dp :: .ref b :: .int 0 :: .ref a :: st) := by
  subst hp hσ
  refine W.of2 (fun p e s m args below meth c T locs ⟨hx', hby, hml, hown, hnm, hZ, hrt, hlk⟩ X N S => ?_) k
  obtain ⟨-, c1, hc1, H1⟩ := S.get hi
  obtain ⟨hb2, c2, hc2, H2⟩ := S.get hj
  have hx0 : 0 < xs.length := (List.getElem?_eq_some_iff.mp hx).1
  obtain ⟨T', h', L, X', e', N', K', V', st'⟩ := RoadKit.cpA X hx' hZ hown w1 w2 w3 w4 rfl (ia_arv hc1 H1 hxl) (ia_arv hc2 H2 hyl) (us := [.int x]) (Or.inl ⟨rfl, rfl⟩) (sp := 0) (dp := dp) (nn := 1) (by decide) h0 (by decide) (by rw [(ofNat_nn hxl).2]; show 0 + 1 ≤ _; omega) (by rw [(ofNat_nn hyl).2, hdn]; show d + 1 ≤ _; omega)
    (by show _ = [(xs.map Value.int).getD (0 + 0) (.int 0)]; rw [List.getD_eq_getElem?_getD, List.getElem?_map, hx]; rfl) (by rw [List.length_map, hdn]; show d + 1 ≤ _; omega) N hb2 (g := mkF m pc ls (.int 1 :: .int dp :: .ref b :: .int 0 :: .ref a :: st)) rfl (by rw [hml]; exact hsz) rfl (hb hby hd) hf (W := (st.map fun v => v.category).sum) (by show 2 * 0 + _ ≤ _; omega) hlo
  refine ⟨T', L, X', N', ?_, st'⟩
  obtain ⟨c3, A3, -, S3, -, H3, -⟩ := V'
  rw [e']
  refine S.keep1 hj K' A3.1 ⟨A3.2.1, A3.2.2, ?_⟩
  have hs3 : c3.slots.size = ys.length := by rw [S3, (ofNat_nn hyl).2]
  apply List.ext_getElem?
  intro q
  rw [Array.getElem?_toList]
  have e5 : (ys.map Value.int).take dp.toNatClampNeg ++ [Value.int x] ++ (ys.map Value.int).drop (dp.toNatClampNeg + (1 : Int32).toNatClampNeg) = (ys.set d x).map Value.int := by
    rw [List.map_set, List.set_eq_take_append_cons_drop, if_pos (by rw [List.length_map]; exact hl), hdn, List.append_assoc]; rfl
  rw [e5] at H3
  by_cases hq : q < c3.slots.size
  · rw [H3 q hq, List.getD_eq_getElem?_getD]
    have : q < ((ys.set d x).map Value.int).length := by rw [List.length_map, List.length_set]; omega
    rw [List.getElem?_eq_getElem this]; rfl
  · rw [Array.getElem?_eq_none (by omega), List.getElem?_eq_none (by rw [List.length_map, List.length_set]; omega)]
end Rules4
theorem wd {L : List Jvm.Cond} {a0 : Array Value} {Z : State} (hw : ∀ d ∈ L, d.before a0 Z = true) (i : Nat) {d : Jvm.Cond} (h : L[i]? = some d) : d.before a0 Z = true := hw d (List.mem_of_getElem? h)
/-- it returns just this, and the heap is known as this -/
abbrev Ret (v : Option Value) (τ : Asn) : Option Value → Asn → Prop := fun v' σ' => v' = v ∧ σ' = τ
abbrev ShTS (Z : State) (v0 : Value) (v1 : Value) (v2 : Value) (v3 : Value) (v4 : Value) (v5 : Value) (v6 : Value) (v7 : Value) (v8 : Value) (v9 : Value) (v10 : Value) (v11 : Value) (v12 : Value) (v13 : Value) : Cell → Prop := ObjP Z "com/example/mendb/mendb/TupleStore" [("com/example/mendb/mendb/TupleStore", "slots", "[I", v0), ("com/example/mendb/mendb/TupleStore", "indexes", "Ljava/util/Map;", v1), ("com/example/mendb/mendb/TupleStore", "indexList", "Ljava/util/List;", v2), ("com/example/mendb/mendb/TupleStore", "removed", "[I", v3), ("com/example/mendb/mendb/TupleStore", "arity", "I", v4), ("com/example/mendb/mendb/TupleStore", "values", "[I", v5), ("com/example/mendb/mendb/TupleStore", "levels", "[J", v6), ("com/example/mendb/mendb/TupleStore", "states", "[B", v7), ("com/example/mendb/mendb/TupleStore", "count", "I", v8), ("com/example/mendb/mendb/TupleStore", "end", "I", v9), ("com/example/mendb/mendb/TupleStore", "past", "[[J", v10), ("com/example/mendb/mendb/TupleStore", "removedCount", "I", v11), ("com/example/mendb/mendb/TupleStore", "firstAdded", "I", v12), ("com/example/mendb/mendb/TupleStore", "countAtStart", "I", v13)]
abbrev ShHM (Z : State) (v0 : Value) : Cell → Prop := ObjP Z "java/util/HashMap" [("java/util/HashMap", "loadFactor", "F", v0)]
abbrev ShAL (Z : State) (v0 : Value) (v1 : Value) (v2 : Value) : Cell → Prop := ObjP Z "java/util/ArrayList" [("java/util/AbstractList", "modCount", "I", v0), ("java/util/ArrayList", "elementData", "[Ljava/lang/Object;", v1), ("java/util/ArrayList", "size", "I", v2)]
abbrev ShIT (Z : State) (v0 : Value) (v1 : Value) (v2 : Value) (v3 : Value) : Cell → Prop := ObjP Z "java/util/ArrayList$Itr" [("java/util/ArrayList$Itr", "this$0", "Ljava/util/ArrayList;", v0), ("java/util/ArrayList$Itr", "lastRet", "I", v1), ("java/util/ArrayList$Itr", "expectedModCount", "I", v2), ("java/util/ArrayList$Itr", "cursor", "I", v3)]
def own_mix (h v : Int32) : Int32 := (h + v) * (-1640531535 : Int32)
def own_fin (h : Int32) : Int32 :=
  let a := (h ^^^ XT.ushr h 16) * (-2048144789 : Int32)
  let b := (a ^^^ XT.ushr a 13) * (-1028477387 : Int32)
  b ^^^ XT.ushr b 16
def own_h (x : Int32) : Int32 := own_fin (own_mix 0 x)
def own_s (x : Int32) : Nat := (own_h x &&& 31).toNatClampNeg
theorem own_s_lt (x : Int32) : own_s x < 32 := by
  have h := c_mask (own_h x) 31 5 (by decide) (by decide)
  unfold own_s
  simp only [Int32.toNatClampNeg, h]; omega
theorem own_slot (x : Int32) : own_h x &&& 31 = Int32.ofNat (own_s x) := by
  have h := c_mask (own_h x) 31 5 (by decide) (by decide)
  have hl := own_s_lt x
  have e : (Int32.ofNat (own_s x)).toInt = own_s x := Int32.toInt_ofNat_of_lt (by omega)
  apply Int32.toInt_inj.mp
  rw [e]; unfold own_s; simp only [Int32.toNatClampNeg]; omega
theorem own_inc {p : Nat} (h : p < 32) : (Int32.ofNat p + 1) &&& 31 = Int32.ofNat ((p + 1) % 32) := (by decide +kernel : ∀ p : Fin 32, (Int32.ofNat p.val + 1) &&& 31 = Int32.ofNat ((p.val + 1) % 32)) ⟨p, h⟩
theorem own_d0 {p : Nat} (h : p < 32) : (Int32.ofNat p - Int32.ofNat p) &&& 31 = 0 := (by decide +kernel : ∀ p : Fin 32, (Int32.ofNat p.val - Int32.ofNat p.val) &&& 31 = 0) ⟨p, h⟩
theorem own_d1 {p : Nat} (h : p < 32) : (Int32.ofNat ((p + 1) % 32) - Int32.ofNat p) &&& 31 = 1 := (by decide +kernel : ∀ p : Fin 32, (Int32.ofNat ((p.val + 1) % 32) - Int32.ofNat p.val) &&& 31 = 1) ⟨p, h⟩
theorem own_nn {k : Nat} (h : k < 32) : ¬ Int32.ofNat k < 0 := (ofNat_nn (by omega)).1
theorem own_tn {k : Nat} (h : k < 32) : (Int32.ofNat k).toNatClampNeg = k := (ofNat_nn (by omega)).2
def own_one (s : Nat) : List Int32 := (List.replicate 32 0).set s 1
def own_two (s p : Nat) : List Int32 := (own_one s).set p 2
def own_pb (a b : Int32) : Nat := if own_s b = own_s a then (own_s a + 1) % 32 else own_s b
theorem own_one_len (s : Nat) : (own_one s).length = 32 := by unfold own_one; rw [List.length_set, List.length_replicate]
theorem own_two_len (s p : Nat) : (own_two s p).length = 32 := by unfold own_two; rw [List.length_set, own_one_len]
theorem own_one_at {s i : Nat} (hi : i < 32) : (own_one s)[i]? = some (if s = i then 1 else 0) := by
  unfold own_one
  rw [List.getElem?_set, List.getElem?_replicate, List.length_replicate, if_pos hi]
  by_cases h : s = i
  · rw [if_pos h, if_pos (by omega), if_pos h]
  · rw [if_neg h, if_neg h]
theorem own_two_at {s p i : Nat} (hi : i < 32) : (own_two s p)[i]? = some (if p = i then 2 else if s = i then 1 else 0) := by
  unfold own_two
  rw [List.getElem?_set, own_one_len, own_one_at hi]
  by_cases h : p = i
  · rw [if_pos h, if_pos (by omega), if_pos h]
  · rw [if_neg h, if_neg h]
theorem own_pb_lt (a b : Int32) : own_pb a b < 32 := by
  unfold own_pb; have := own_s_lt a; have := own_s_lt b; split <;> omega
theorem own_pb_ne (a b : Int32) : own_pb a b ≠ own_s a := by
  unfold own_pb; have := own_s_lt a; split <;> omega
theorem d1_0 : decode prog_126_method_1_code 0 = .ok (.aload_n 0, 1) := by decide +kernel
theorem d1_1 : decode prog_126_method_1_code 1 = .ok (.invokespecial 1, 3) := by decide +kernel
theorem d1_4 : decode prog_126_method_1_code 4 = .ok (.aload_n 0, 1) := by decide +kernel
theorem d1_5 : decode prog_126_method_1_code 5 = .ok (.bipush 32, 2) := by decide +kernel
theorem d1_7 : decode prog_126_method_1_code 7 = .ok (.newarray .int, 2) := by decide +kernel
theorem d1_9 : decode prog_126_method_1_code 9 = .ok (.putfield 9, 3) := by decide +kernel
theorem d1_12 : decode prog_126_method_1_code 12 = .ok (.aload_n 0, 1) := by decide +kernel
theorem d1_13 : decode prog_126_method_1_code 13 = .ok (.new 13, 3) := by decide +kernel
theorem d1_16 : decode prog_126_method_1_code 16 = .ok (.dup, 1) := by decide +kernel
theorem d1_17 : decode prog_126_method_1_code 17 = .ok (.invokespecial 15, 3) := by decide +kernel
theorem d1_20 : decode prog_126_method_1_code 20 = .ok (.putfield 16, 3) := by decide +kernel
theorem d1_23 : decode prog_126_method_1_code 23 = .ok (.aload_n 0, 1) := by decide +kernel
theorem d1_24 : decode prog_126_method_1_code 24 = .ok (.new 20, 3) := by decide +kernel
theorem d1_27 : decode prog_126_method_1_code 27 = .ok (.dup, 1) := by decide +kernel
theorem d1_28 : decode prog_126_method_1_code 28 = .ok (.invokespecial 22, 3) := by decide +kernel
theorem d1_31 : decode prog_126_method_1_code 31 = .ok (.putfield 23, 3) := by decide +kernel
theorem d1_34 : decode prog_126_method_1_code 34 = .ok (.aload_n 0, 1) := by decide +kernel
theorem d1_35 : decode prog_126_method_1_code 35 = .ok (.bipush 16, 2) := by decide +kernel
theorem d1_37 : decode prog_126_method_1_code 37 = .ok (.newarray .int, 2) := by decide +kernel
theorem d1_39 : decode prog_126_method_1_code 39 = .ok (.putfield 27, 3) := by decide +kernel
theorem d1_42 : decode prog_126_method_1_code 42 = .ok (.aload_n 0, 1) := by decide +kernel
theorem d1_43 : decode prog_126_method_1_code 43 = .ok (.iload_n 1, 1) := by decide +kernel
theorem d1_44 : decode prog_126_method_1_code 44 = .ok (.putfield 30, 3) := by decide +kernel
theorem d1_47 : decode prog_126_method_1_code 47 = .ok (.aload_n 0, 1) := by decide +kernel
theorem d1_48 : decode prog_126_method_1_code 48 = .ok (.bipush 16, 2) := by decide +kernel
theorem d1_50 : decode prog_126_method_1_code 50 = .ok (.iload_n 1, 1) := by decide +kernel
theorem d1_51 : decode prog_126_method_1_code 51 = .ok (.imul, 1) := by decide +kernel
theorem d1_52 : decode prog_126_method_1_code 52 = .ok (.newarray .int, 2) := by decide +kernel
theorem d1_54 : decode prog_126_method_1_code 54 = .ok (.putfield 34, 3) := by decide +kernel
theorem d1_57 : decode prog_126_method_1_code 57 = .ok (.aload_n 0, 1) := by decide +kernel
theorem d1_58 : decode prog_126_method_1_code 58 = .ok (.bipush 16, 2) := by decide +kernel
theorem d1_60 : decode prog_126_method_1_code 60 = .ok (.newarray .long, 2) := by decide +kernel
theorem d1_62 : decode prog_126_method_1_code 62 = .ok (.putfield 37, 3) := by decide +kernel
theorem d1_65 : decode prog_126_method_1_code 65 = .ok (.aload_n 0, 1) := by decide +kernel
theorem d1_66 : decode prog_126_method_1_code 66 = .ok (.bipush 16, 2) := by decide +kernel
theorem d1_68 : decode prog_126_method_1_code 68 = .ok (.newarray .byte, 2) := by decide +kernel
theorem d1_70 : decode prog_126_method_1_code 70 = .ok (.putfield 41, 3) := by decide +kernel
theorem d1_73 : decode prog_126_method_1_code 73 = .ok (.return_, 1) := by decide +kernel
theorem d3_0 : decode jdk_69_method_7_code 0 = .ok (.aload_n 0, 1) := by decide +kernel
theorem d3_1 : decode jdk_69_method_7_code 1 = .ok (.invokespecial 43, 3) := by decide +kernel
theorem d3_4 : decode jdk_69_method_7_code 4 = .ok (.aload_n 0, 1) := by decide +kernel
theorem d3_5 : decode jdk_69_method_7_code 5 = .ok (.ldc 92, 2) := by decide +kernel
theorem d3_7 : decode jdk_69_method_7_code 7 = .ok (.putfield 81, 3) := by decide +kernel
theorem d3_10 : decode jdk_69_method_7_code 10 = .ok (.return_, 1) := by decide +kernel
theorem d4_0 : decode jdk_71_method_1_code 0 = .ok (.aload_n 0, 1) := by decide +kernel
theorem d4_1 : decode jdk_71_method_1_code 1 = .ok (.invokespecial 1, 3) := by decide +kernel
theorem d4_4 : decode jdk_71_method_1_code 4 = .ok (.return_, 1) := by decide +kernel
theorem d5_0 : decode jdk_38_method_2_code 0 = .ok (.aload_n 0, 1) := by decide +kernel
theorem d5_1 : decode jdk_38_method_2_code 1 = .ok (.invokespecial 1, 3) := by decide +kernel
theorem d5_4 : decode jdk_38_method_2_code 4 = .ok (.aload_n 0, 1) := by decide +kernel
theorem d5_5 : decode jdk_38_method_2_code 5 = .ok (.getstatic 39, 3) := by decide +kernel
theorem d5_8 : decode jdk_38_method_2_code 8 = .ok (.putfield 9, 3) := by decide +kernel
theorem d5_11 : decode jdk_38_method_2_code 11 = .ok (.return_, 1) := by decide +kernel
theorem d6_0 : decode jdk_39_method_1_code 0 = .ok (.aload_n 0, 1) := by decide +kernel
theorem d6_1 : decode jdk_39_method_1_code 1 = .ok (.invokespecial 1, 3) := by decide +kernel
theorem d6_4 : decode jdk_39_method_1_code 4 = .ok (.aload_n 0, 1) := by decide +kernel
theorem d6_5 : decode jdk_39_method_1_code 5 = .ok (.iconst 0, 1) := by decide +kernel
theorem d6_6 : decode jdk_39_method_1_code 6 = .ok (.putfield 7, 3) := by decide +kernel
theorem d6_9 : decode jdk_39_method_1_code 9 = .ok (.return_, 1) := by decide +kernel
theorem d7_0 : decode jdk_22_method_1_code 0 = .ok (.aload_n 0, 1) := by decide +kernel
theorem d7_1 : decode jdk_22_method_1_code 1 = .ok (.invokespecial 1, 3) := by decide +kernel
theorem d7_4 : decode jdk_22_method_1_code 4 = .ok (.return_, 1) := by decide +kernel
theorem d8_0 : decode prog_126_method_21_code 0 = .ok (.aload_n 0, 1) := by decide +kernel
theorem d8_1 : decode prog_126_method_21_code 1 = .ok (.aload_n 1, 1) := by decide +kernel
theorem d8_2 : decode prog_126_method_21_code 2 = .ok (.lconst 0, 1) := by decide +kernel
theorem d8_3 : decode prog_126_method_21_code 3 = .ok (.invokevirtual 79, 3) := by decide +kernel
theorem d8_6 : decode prog_126_method_21_code 6 = .ok (.ireturn, 1) := by decide +kernel
theorem d9_0 : decode prog_126_method_22_code 0 = .ok (.aload_n 0, 1) := by decide +kernel
theorem d9_1 : decode prog_126_method_22_code 1 = .ok (.getfield 48, 3) := by decide +kernel
theorem d9_4 : decode prog_126_method_22_code 4 = .ok (.iconst 1, 1) := by decide +kernel
theorem d9_5 : decode prog_126_method_22_code 5 = .ok (.iadd, 1) := by decide +kernel
theorem d9_6 : decode prog_126_method_22_code 6 = .ok (.iconst 2, 1) := by decide +kernel
theorem d9_7 : decode prog_126_method_22_code 7 = .ok (.imul, 1) := by decide +kernel
theorem d9_8 : decode prog_126_method_22_code 8 = .ok (.aload_n 0, 1) := by decide +kernel
theorem d9_9 : decode prog_126_method_22_code 9 = .ok (.getfield 9, 3) := by decide +kernel
theorem d9_12 : decode prog_126_method_22_code 12 = .ok (.arraylength, 1) := by decide +kernel
theorem d9_13 : decode prog_126_method_22_code 13 = .ok (.if_icmp .le 14, 3) := by decide +kernel
theorem d9_27 : decode prog_126_method_22_code 27 = .ok (.aload_n 0, 1) := by decide +kernel
theorem d9_28 : decode prog_126_method_22_code 28 = .ok (.getfield 9, 3) := by decide +kernel
theorem d9_31 : decode prog_126_method_22_code 31 = .ok (.arraylength, 1) := by decide +kernel
theorem d9_32 : decode prog_126_method_22_code 32 = .ok (.iconst 1, 1) := by decide +kernel
theorem d9_33 : decode prog_126_method_22_code 33 = .ok (.isub, 1) := by decide +kernel
theorem d9_34 : decode prog_126_method_22_code 34 = .ok (.istore 4, 2) := by decide +kernel
theorem d9_36 : decode prog_126_method_22_code 36 = .ok (.aload_n 0, 1) := by decide +kernel
theorem d9_37 : decode prog_126_method_22_code 37 = .ok (.aload_n 1, 1) := by decide +kernel
theorem d9_38 : decode prog_126_method_22_code 38 = .ok (.iconst 0, 1) := by decide +kernel
theorem d9_39 : decode prog_126_method_22_code 39 = .ok (.invokevirtual 87, 3) := by decide +kernel
theorem d9_42 : decode prog_126_method_22_code 42 = .ok (.iload 4, 2) := by decide +kernel
theorem d9_44 : decode prog_126_method_22_code 44 = .ok (.iand, 1) := by decide +kernel
theorem d9_45 : decode prog_126_method_22_code 45 = .ok (.istore 5, 2) := by decide +kernel
theorem d9_47 : decode prog_126_method_22_code 47 = .ok (.aload_n 0, 1) := by decide +kernel
theorem d9_48 : decode prog_126_method_22_code 48 = .ok (.getfield 9, 3) := by decide +kernel
theorem d9_51 : decode prog_126_method_22_code 51 = .ok (.iload 5, 2) := by decide +kernel
theorem d9_53 : decode prog_126_method_22_code 53 = .ok (.iaload, 1) := by decide +kernel
theorem d9_54 : decode prog_126_method_22_code 54 = .ok (.ifCond .eq 35, 3) := by decide +kernel
theorem d9_57 : decode prog_126_method_22_code 57 = .ok (.aload_n 0, 1) := by decide +kernel
theorem d9_58 : decode prog_126_method_22_code 58 = .ok (.aload_n 0, 1) := by decide +kernel
theorem d9_59 : decode prog_126_method_22_code 59 = .ok (.getfield 9, 3) := by decide +kernel
theorem d9_62 : decode prog_126_method_22_code 62 = .ok (.iload 5, 2) := by decide +kernel
theorem d9_64 : decode prog_126_method_22_code 64 = .ok (.iaload, 1) := by decide +kernel
theorem d9_65 : decode prog_126_method_22_code 65 = .ok (.iconst 1, 1) := by decide +kernel
theorem d9_66 : decode prog_126_method_22_code 66 = .ok (.isub, 1) := by decide +kernel
theorem d9_67 : decode prog_126_method_22_code 67 = .ok (.aload_n 1, 1) := by decide +kernel
theorem d9_68 : decode prog_126_method_22_code 68 = .ok (.iconst 0, 1) := by decide +kernel
theorem d9_69 : decode prog_126_method_22_code 69 = .ok (.invokevirtual 91, 3) := by decide +kernel
theorem d9_72 : decode prog_126_method_22_code 72 = .ok (.ifCond .eq 5, 3) := by decide +kernel
theorem d9_75 : decode prog_126_method_22_code 75 = .ok (.iconst 0, 1) := by decide +kernel
theorem d9_76 : decode prog_126_method_22_code 76 = .ok (.ireturn, 1) := by decide +kernel
theorem d9_77 : decode prog_126_method_22_code 77 = .ok (.iload 5, 2) := by decide +kernel
theorem d9_79 : decode prog_126_method_22_code 79 = .ok (.iconst 1, 1) := by decide +kernel
theorem d9_80 : decode prog_126_method_22_code 80 = .ok (.iadd, 1) := by decide +kernel
theorem d9_81 : decode prog_126_method_22_code 81 = .ok (.iload 4, 2) := by decide +kernel
theorem d9_83 : decode prog_126_method_22_code 83 = .ok (.iand, 1) := by decide +kernel
theorem d9_84 : decode prog_126_method_22_code 84 = .ok (.istore 5, 2) := by decide +kernel
theorem d9_86 : decode prog_126_method_22_code 86 = .ok (.goto (-39), 3) := by decide +kernel
theorem d9_89 : decode prog_126_method_22_code 89 = .ok (.aload_n 0, 1) := by decide +kernel
theorem d9_90 : decode prog_126_method_22_code 90 = .ok (.getfield 45, 3) := by decide +kernel
theorem d9_93 : decode prog_126_method_22_code 93 = .ok (.aload_n 0, 1) := by decide +kernel
theorem d9_94 : decode prog_126_method_22_code 94 = .ok (.getfield 41, 3) := by decide +kernel
theorem d9_97 : decode prog_126_method_22_code 97 = .ok (.arraylength, 1) := by decide +kernel
theorem d9_98 : decode prog_126_method_22_code 98 = .ok (.if_icmp .ne 82, 3) := by decide +kernel
theorem d9_180 : decode prog_126_method_22_code 180 = .ok (.aload_n 1, 1) := by decide +kernel
theorem d9_181 : decode prog_126_method_22_code 181 = .ok (.iconst 0, 1) := by decide +kernel
theorem d9_182 : decode prog_126_method_22_code 182 = .ok (.aload_n 0, 1) := by decide +kernel
theorem d9_183 : decode prog_126_method_22_code 183 = .ok (.getfield 34, 3) := by decide +kernel
theorem d9_186 : decode prog_126_method_22_code 186 = .ok (.aload_n 0, 1) := by decide +kernel
theorem d9_187 : decode prog_126_method_22_code 187 = .ok (.getfield 45, 3) := by decide +kernel
theorem d9_190 : decode prog_126_method_22_code 190 = .ok (.aload_n 0, 1) := by decide +kernel
theorem d9_191 : decode prog_126_method_22_code 191 = .ok (.getfield 30, 3) := by decide +kernel
theorem d9_194 : decode prog_126_method_22_code 194 = .ok (.imul, 1) := by decide +kernel
theorem d9_195 : decode prog_126_method_22_code 195 = .ok (.aload_n 0, 1) := by decide +kernel
theorem d9_196 : decode prog_126_method_22_code 196 = .ok (.getfield 30, 3) := by decide +kernel
theorem d9_199 : decode prog_126_method_22_code 199 = .ok (.invokestatic 73, 3) := by decide +kernel
theorem d9_202 : decode prog_126_method_22_code 202 = .ok (.aload_n 0, 1) := by decide +kernel
theorem d9_203 : decode prog_126_method_22_code 203 = .ok (.getfield 37, 3) := by decide +kernel
theorem d9_206 : decode prog_126_method_22_code 206 = .ok (.aload_n 0, 1) := by decide +kernel
theorem d9_207 : decode prog_126_method_22_code 207 = .ok (.getfield 45, 3) := by decide +kernel
theorem d9_210 : decode prog_126_method_22_code 210 = .ok (.lload_n 2, 1) := by decide +kernel
theorem d9_211 : decode prog_126_method_22_code 211 = .ok (.lastore, 1) := by decide +kernel
theorem d9_212 : decode prog_126_method_22_code 212 = .ok (.aload_n 0, 1) := by decide +kernel
theorem d9_213 : decode prog_126_method_22_code 213 = .ok (.getfield 55, 3) := by decide +kernel
theorem d9_216 : decode prog_126_method_22_code 216 = .ok (.ifnull 13, 3) := by decide +kernel
theorem d9_229 : decode prog_126_method_22_code 229 = .ok (.aload_n 0, 1) := by decide +kernel
theorem d9_230 : decode prog_126_method_22_code 230 = .ok (.getfield 41, 3) := by decide +kernel
theorem d9_233 : decode prog_126_method_22_code 233 = .ok (.aload_n 0, 1) := by decide +kernel
theorem d9_234 : decode prog_126_method_22_code 234 = .ok (.getfield 45, 3) := by decide +kernel
theorem d9_237 : decode prog_126_method_22_code 237 = .ok (.iconst 0, 1) := by decide +kernel
theorem d9_238 : decode prog_126_method_22_code 238 = .ok (.bastore, 1) := by decide +kernel
theorem d9_239 : decode prog_126_method_22_code 239 = .ok (.aload_n 0, 1) := by decide +kernel
theorem d9_240 : decode prog_126_method_22_code 240 = .ok (.getfield 9, 3) := by decide +kernel
theorem d9_243 : decode prog_126_method_22_code 243 = .ok (.iload 5, 2) := by decide +kernel
theorem d9_245 : decode prog_126_method_22_code 245 = .ok (.aload_n 0, 1) := by decide +kernel
theorem d9_246 : decode prog_126_method_22_code 246 = .ok (.getfield 45, 3) := by decide +kernel
theorem d9_249 : decode prog_126_method_22_code 249 = .ok (.iconst 1, 1) := by decide +kernel
theorem d9_250 : decode prog_126_method_22_code 250 = .ok (.iadd, 1) := by decide +kernel
theorem d9_251 : decode prog_126_method_22_code 251 = .ok (.iastore, 1) := by decide +kernel
theorem d9_252 : decode prog_126_method_22_code 252 = .ok (.aload_n 0, 1) := by decide +kernel
theorem d9_253 : decode prog_126_method_22_code 253 = .ok (.getfield 45, 3) := by decide +kernel
theorem d9_256 : decode prog_126_method_22_code 256 = .ok (.istore 6, 2) := by decide +kernel
theorem d9_258 : decode prog_126_method_22_code 258 = .ok (.aload_n 0, 1) := by decide +kernel
theorem d9_259 : decode prog_126_method_22_code 259 = .ok (.dup, 1) := by decide +kernel
theorem d9_260 : decode prog_126_method_22_code 260 = .ok (.getfield 45, 3) := by decide +kernel
theorem d9_263 : decode prog_126_method_22_code 263 = .ok (.iconst 1, 1) := by decide +kernel
theorem d9_264 : decode prog_126_method_22_code 264 = .ok (.iadd, 1) := by decide +kernel
theorem d9_265 : decode prog_126_method_22_code 265 = .ok (.putfield 45, 3) := by decide +kernel
theorem d9_268 : decode prog_126_method_22_code 268 = .ok (.aload_n 0, 1) := by decide +kernel
theorem d9_269 : decode prog_126_method_22_code 269 = .ok (.dup, 1) := by decide +kernel
theorem d9_270 : decode prog_126_method_22_code 270 = .ok (.getfield 48, 3) := by decide +kernel
theorem d9_273 : decode prog_126_method_22_code 273 = .ok (.iconst 1, 1) := by decide +kernel
theorem d9_274 : decode prog_126_method_22_code 274 = .ok (.iadd, 1) := by decide +kernel
theorem d9_275 : decode prog_126_method_22_code 275 = .ok (.putfield 48, 3) := by decide +kernel
theorem d9_278 : decode prog_126_method_22_code 278 = .ok (.aload_n 0, 1) := by decide +kernel
theorem d9_279 : decode prog_126_method_22_code 279 = .ok (.getfield 23, 3) := by decide +kernel
theorem d9_282 : decode prog_126_method_22_code 282 = .ok (.invokeinterface 111 1, 5) := by decide +kernel
theorem d9_287 : decode prog_126_method_22_code 287 = .ok (.astore 7, 2) := by decide +kernel
theorem d9_289 : decode prog_126_method_22_code 289 = .ok (.aload 7, 2) := by decide +kernel
theorem d9_291 : decode prog_126_method_22_code 291 = .ok (.invokeinterface 117 1, 5) := by decide +kernel
theorem d9_296 : decode prog_126_method_22_code 296 = .ok (.ifCond .eq 25, 3) := by decide +kernel
theorem d9_321 : decode prog_126_method_22_code 321 = .ok (.iconst 1, 1) := by decide +kernel
theorem d9_322 : decode prog_126_method_22_code 322 = .ok (.ireturn, 1) := by decide +kernel
theorem d10_0 : decode prog_126_method_42_code 0 = .ok (.iconst 0, 1) := by decide +kernel
theorem d10_1 : decode prog_126_method_42_code 1 = .ok (.istore_n 3, 1) := by decide +kernel
theorem d10_2 : decode prog_126_method_42_code 2 = .ok (.iconst 0, 1) := by decide +kernel
theorem d10_3 : decode prog_126_method_42_code 3 = .ok (.istore 4, 2) := by decide +kernel
theorem d10_5 : decode prog_126_method_42_code 5 = .ok (.iload 4, 2) := by decide +kernel
theorem d10_7 : decode prog_126_method_42_code 7 = .ok (.aload_n 0, 1) := by decide +kernel
theorem d10_8 : decode prog_126_method_42_code 8 = .ok (.getfield 30, 3) := by decide +kernel
theorem d10_11 : decode prog_126_method_42_code 11 = .ok (.if_icmp .ge 20, 3) := by decide +kernel
theorem d10_14 : decode prog_126_method_42_code 14 = .ok (.iload_n 3, 1) := by decide +kernel
theorem d10_15 : decode prog_126_method_42_code 15 = .ok (.aload_n 1, 1) := by decide +kernel
theorem d10_16 : decode prog_126_method_42_code 16 = .ok (.iload_n 2, 1) := by decide +kernel
theorem d10_17 : decode prog_126_method_42_code 17 = .ok (.iload 4, 2) := by decide +kernel
theorem d10_19 : decode prog_126_method_42_code 19 = .ok (.iadd, 1) := by decide +kernel
theorem d10_20 : decode prog_126_method_42_code 20 = .ok (.iaload, 1) := by decide +kernel
theorem d10_21 : decode prog_126_method_42_code 21 = .ok (.invokestatic 186, 3) := by decide +kernel
theorem d10_24 : decode prog_126_method_42_code 24 = .ok (.istore_n 3, 1) := by decide +kernel
theorem d10_25 : decode prog_126_method_42_code 25 = .ok (.iinc 4 1, 3) := by decide +kernel
theorem d10_28 : decode prog_126_method_42_code 28 = .ok (.goto (-23), 3) := by decide +kernel
theorem d10_31 : decode prog_126_method_42_code 31 = .ok (.iload_n 3, 1) := by decide +kernel
theorem d10_32 : decode prog_126_method_42_code 32 = .ok (.invokestatic 190, 3) := by decide +kernel
theorem d10_35 : decode prog_126_method_42_code 35 = .ok (.ireturn, 1) := by decide +kernel
theorem d11_0 : decode prog_126_method_44_code 0 = .ok (.iload_n 0, 1) := by decide +kernel
theorem d11_1 : decode prog_126_method_44_code 1 = .ok (.iload_n 1, 1) := by decide +kernel
theorem d11_2 : decode prog_126_method_44_code 2 = .ok (.iadd, 1) := by decide +kernel
theorem d11_3 : decode prog_126_method_44_code 3 = .ok (.ldc 193, 2) := by decide +kernel
theorem d11_5 : decode prog_126_method_44_code 5 = .ok (.imul, 1) := by decide +kernel
theorem d11_6 : decode prog_126_method_44_code 6 = .ok (.ireturn, 1) := by decide +kernel
theorem d12_0 : decode prog_126_method_45_code 0 = .ok (.iload_n 0, 1) := by decide +kernel
theorem d12_1 : decode prog_126_method_45_code 1 = .ok (.iload_n 0, 1) := by decide +kernel
theorem d12_2 : decode prog_126_method_45_code 2 = .ok (.bipush 16, 2) := by decide +kernel
theorem d12_4 : decode prog_126_method_45_code 4 = .ok (.iushr, 1) := by decide +kernel
theorem d12_5 : decode prog_126_method_45_code 5 = .ok (.ixor, 1) := by decide +kernel
theorem d12_6 : decode prog_126_method_45_code 6 = .ok (.istore_n 1, 1) := by decide +kernel
theorem d12_7 : decode prog_126_method_45_code 7 = .ok (.iload_n 1, 1) := by decide +kernel
theorem d12_8 : decode prog_126_method_45_code 8 = .ok (.ldc 194, 2) := by decide +kernel
theorem d12_10 : decode prog_126_method_45_code 10 = .ok (.imul, 1) := by decide +kernel
theorem d12_11 : decode prog_126_method_45_code 11 = .ok (.istore_n 1, 1) := by decide +kernel
theorem d12_12 : decode prog_126_method_45_code 12 = .ok (.iload_n 1, 1) := by decide +kernel
theorem d12_13 : decode prog_126_method_45_code 13 = .ok (.iload_n 1, 1) := by decide +kernel
theorem d12_14 : decode prog_126_method_45_code 14 = .ok (.bipush 13, 2) := by decide +kernel
theorem d12_16 : decode prog_126_method_45_code 16 = .ok (.iushr, 1) := by decide +kernel
theorem d12_17 : decode prog_126_method_45_code 17 = .ok (.ixor, 1) := by decide +kernel
theorem d12_18 : decode prog_126_method_45_code 18 = .ok (.istore_n 1, 1) := by decide +kernel
theorem d12_19 : decode prog_126_method_45_code 19 = .ok (.iload_n 1, 1) := by decide +kernel
theorem d12_20 : decode prog_126_method_45_code 20 = .ok (.ldc 195, 2) := by decide +kernel
theorem d12_22 : decode prog_126_method_45_code 22 = .ok (.imul, 1) := by decide +kernel
theorem d12_23 : decode prog_126_method_45_code 23 = .ok (.istore_n 1, 1) := by decide +kernel
theorem d12_24 : decode prog_126_method_45_code 24 = .ok (.iload_n 1, 1) := by decide +kernel
theorem d12_25 : decode prog_126_method_45_code 25 = .ok (.iload_n 1, 1) := by decide +kernel
theorem d12_26 : decode prog_126_method_45_code 26 = .ok (.bipush 16, 2) := by decide +kernel
theorem d12_28 : decode prog_126_method_45_code 28 = .ok (.iushr, 1) := by decide +kernel
theorem d12_29 : decode prog_126_method_45_code 29 = .ok (.ixor, 1) := by decide +kernel
theorem d12_30 : decode prog_126_method_45_code 30 = .ok (.ireturn, 1) := by decide +kernel
theorem d13_0 : decode jdk_38_method_55_code 0 = .ok (.new 267, 3) := by decide +kernel
theorem d13_3 : decode jdk_38_method_55_code 3 = .ok (.dup, 1) := by decide +kernel
theorem d13_4 : decode jdk_38_method_55_code 4 = .ok (.aload_n 0, 1) := by decide +kernel
theorem d13_5 : decode jdk_38_method_55_code 5 = .ok (.invokespecial 269, 3) := by decide +kernel
theorem d13_8 : decode jdk_38_method_55_code 8 = .ok (.areturn, 1) := by decide +kernel
theorem d14_0 : decode jdk_49_method_1_code 0 = .ok (.aload_n 0, 1) := by decide +kernel
theorem d14_1 : decode jdk_49_method_1_code 1 = .ok (.aload_n 1, 1) := by decide +kernel
theorem d14_2 : decode jdk_49_method_1_code 2 = .ok (.putfield 1, 3) := by decide +kernel
theorem d14_5 : decode jdk_49_method_1_code 5 = .ok (.aload_n 0, 1) := by decide +kernel
theorem d14_6 : decode jdk_49_method_1_code 6 = .ok (.invokespecial 7, 3) := by decide +kernel
theorem d14_9 : decode jdk_49_method_1_code 9 = .ok (.aload_n 0, 1) := by decide +kernel
theorem d14_10 : decode jdk_49_method_1_code 10 = .ok (.iconst (-1), 1) := by decide +kernel
theorem d14_11 : decode jdk_49_method_1_code 11 = .ok (.putfield 13, 3) := by decide +kernel
theorem d14_14 : decode jdk_49_method_1_code 14 = .ok (.aload_n 0, 1) := by decide +kernel
theorem d14_15 : decode jdk_49_method_1_code 15 = .ok (.aload_n 0, 1) := by decide +kernel
theorem d14_16 : decode jdk_49_method_1_code 16 = .ok (.getfield 1, 3) := by decide +kernel
theorem d14_19 : decode jdk_49_method_1_code 19 = .ok (.getfield 17, 3) := by decide +kernel
theorem d14_22 : decode jdk_49_method_1_code 22 = .ok (.putfield 22, 3) := by decide +kernel
theorem d14_25 : decode jdk_49_method_1_code 25 = .ok (.return_, 1) := by decide +kernel
theorem d15_0 : decode jdk_49_method_2_code 0 = .ok (.aload_n 0, 1) := by decide +kernel
theorem d15_1 : decode jdk_49_method_2_code 1 = .ok (.getfield 25, 3) := by decide +kernel
theorem d15_4 : decode jdk_49_method_2_code 4 = .ok (.aload_n 0, 1) := by decide +kernel
theorem d15_5 : decode jdk_49_method_2_code 5 = .ok (.getfield 1, 3) := by decide +kernel
theorem d15_8 : decode jdk_49_method_2_code 8 = .ok (.getfield 28, 3) := by decide +kernel
theorem d15_11 : decode jdk_49_method_2_code 11 = .ok (.if_icmp .eq 7, 3) := by decide +kernel
theorem d15_18 : decode jdk_49_method_2_code 18 = .ok (.iconst 0, 1) := by decide +kernel
theorem d15_19 : decode jdk_49_method_2_code 19 = .ok (.ireturn, 1) := by decide +kernel
theorem d16_0 : decode prog_126_method_25_code 0 = .ok (.aload_n 0, 1) := by decide +kernel
theorem d16_1 : decode prog_126_method_25_code 1 = .ok (.getfield 9, 3) := by decide +kernel
theorem d16_4 : decode prog_126_method_25_code 4 = .ok (.arraylength, 1) := by decide +kernel
theorem d16_5 : decode prog_126_method_25_code 5 = .ok (.iconst 1, 1) := by decide +kernel
theorem d16_6 : decode prog_126_method_25_code 6 = .ok (.isub, 1) := by decide +kernel
theorem d16_7 : decode prog_126_method_25_code 7 = .ok (.istore_n 2, 1) := by decide +kernel
theorem d16_8 : decode prog_126_method_25_code 8 = .ok (.aload_n 0, 1) := by decide +kernel
theorem d16_9 : decode prog_126_method_25_code 9 = .ok (.aload_n 0, 1) := by decide +kernel
theorem d16_10 : decode prog_126_method_25_code 10 = .ok (.getfield 34, 3) := by decide +kernel
theorem d16_13 : decode prog_126_method_25_code 13 = .ok (.iload_n 1, 1) := by decide +kernel
theorem d16_14 : decode prog_126_method_25_code 14 = .ok (.aload_n 0, 1) := by decide +kernel
theorem d16_15 : decode prog_126_method_25_code 15 = .ok (.getfield 30, 3) := by decide +kernel
theorem d16_18 : decode prog_126_method_25_code 18 = .ok (.imul, 1) := by decide +kernel
theorem d16_19 : decode prog_126_method_25_code 19 = .ok (.invokevirtual 87, 3) := by decide +kernel
theorem d16_22 : decode prog_126_method_25_code 22 = .ok (.iload_n 2, 1) := by decide +kernel
theorem d16_23 : decode prog_126_method_25_code 23 = .ok (.iand, 1) := by decide +kernel
theorem d16_24 : decode prog_126_method_25_code 24 = .ok (.istore_n 3, 1) := by decide +kernel
theorem d16_25 : decode prog_126_method_25_code 25 = .ok (.aload_n 0, 1) := by decide +kernel
theorem d16_26 : decode prog_126_method_25_code 26 = .ok (.getfield 9, 3) := by decide +kernel
theorem d16_29 : decode prog_126_method_25_code 29 = .ok (.iload_n 3, 1) := by decide +kernel
theorem d16_30 : decode prog_126_method_25_code 30 = .ok (.iaload, 1) := by decide +kernel
theorem d16_31 : decode prog_126_method_25_code 31 = .ok (.iload_n 1, 1) := by decide +kernel
theorem d16_32 : decode prog_126_method_25_code 32 = .ok (.iconst 1, 1) := by decide +kernel
theorem d16_33 : decode prog_126_method_25_code 33 = .ok (.iadd, 1) := by decide +kernel
theorem d16_34 : decode prog_126_method_25_code 34 = .ok (.if_icmp .eq 12, 3) := by decide +kernel
theorem d16_37 : decode prog_126_method_25_code 37 = .ok (.iload_n 3, 1) := by decide +kernel
theorem d16_38 : decode prog_126_method_25_code 38 = .ok (.iconst 1, 1) := by decide +kernel
theorem d16_39 : decode prog_126_method_25_code 39 = .ok (.iadd, 1) := by decide +kernel
theorem d16_40 : decode prog_126_method_25_code 40 = .ok (.iload_n 2, 1) := by decide +kernel
theorem d16_41 : decode prog_126_method_25_code 41 = .ok (.iand, 1) := by decide +kernel
theorem d16_42 : decode prog_126_method_25_code 42 = .ok (.istore_n 3, 1) := by decide +kernel
theorem d16_43 : decode prog_126_method_25_code 43 = .ok (.goto (-18), 3) := by decide +kernel
theorem d16_46 : decode prog_126_method_25_code 46 = .ok (.iload_n 3, 1) := by decide +kernel
theorem d16_47 : decode prog_126_method_25_code 47 = .ok (.istore 4, 2) := by decide +kernel
theorem d16_49 : decode prog_126_method_25_code 49 = .ok (.iload 4, 2) := by decide +kernel
theorem d16_51 : decode prog_126_method_25_code 51 = .ok (.iconst 1, 1) := by decide +kernel
theorem d16_52 : decode prog_126_method_25_code 52 = .ok (.iadd, 1) := by decide +kernel
theorem d16_53 : decode prog_126_method_25_code 53 = .ok (.iload_n 2, 1) := by decide +kernel
theorem d16_54 : decode prog_126_method_25_code 54 = .ok (.iand, 1) := by decide +kernel
theorem d16_55 : decode prog_126_method_25_code 55 = .ok (.istore 5, 2) := by decide +kernel
theorem d16_57 : decode prog_126_method_25_code 57 = .ok (.aload_n 0, 1) := by decide +kernel
theorem d16_58 : decode prog_126_method_25_code 58 = .ok (.getfield 9, 3) := by decide +kernel
theorem d16_61 : decode prog_126_method_25_code 61 = .ok (.iload 5, 2) := by decide +kernel
theorem d16_63 : decode prog_126_method_25_code 63 = .ok (.iaload, 1) := by decide +kernel
theorem d16_64 : decode prog_126_method_25_code 64 = .ok (.ifCond .eq 75, 3) := by decide +kernel
theorem d16_67 : decode prog_126_method_25_code 67 = .ok (.aload_n 0, 1) := by decide +kernel
theorem d16_68 : decode prog_126_method_25_code 68 = .ok (.aload_n 0, 1) := by decide +kernel
theorem d16_69 : decode prog_126_method_25_code 69 = .ok (.getfield 34, 3) := by decide +kernel
theorem d16_72 : decode prog_126_method_25_code 72 = .ok (.aload_n 0, 1) := by decide +kernel
theorem d16_73 : decode prog_126_method_25_code 73 = .ok (.getfield 9, 3) := by decide +kernel
theorem d16_76 : decode prog_126_method_25_code 76 = .ok (.iload 5, 2) := by decide +kernel
theorem d16_78 : decode prog_126_method_25_code 78 = .ok (.iaload, 1) := by decide +kernel
theorem d16_79 : decode prog_126_method_25_code 79 = .ok (.iconst 1, 1) := by decide +kernel
theorem d16_80 : decode prog_126_method_25_code 80 = .ok (.isub, 1) := by decide +kernel
theorem d16_81 : decode prog_126_method_25_code 81 = .ok (.aload_n 0, 1) := by decide +kernel
theorem d16_82 : decode prog_126_method_25_code 82 = .ok (.getfield 30, 3) := by decide +kernel
theorem d16_85 : decode prog_126_method_25_code 85 = .ok (.imul, 1) := by decide +kernel
theorem d16_86 : decode prog_126_method_25_code 86 = .ok (.invokevirtual 87, 3) := by decide +kernel
theorem d16_89 : decode prog_126_method_25_code 89 = .ok (.iload_n 2, 1) := by decide +kernel
theorem d16_90 : decode prog_126_method_25_code 90 = .ok (.iand, 1) := by decide +kernel
theorem d16_91 : decode prog_126_method_25_code 91 = .ok (.istore 6, 2) := by decide +kernel
theorem d16_93 : decode prog_126_method_25_code 93 = .ok (.iload 5, 2) := by decide +kernel
theorem d16_95 : decode prog_126_method_25_code 95 = .ok (.iload 6, 2) := by decide +kernel
theorem d16_97 : decode prog_126_method_25_code 97 = .ok (.isub, 1) := by decide +kernel
theorem d16_98 : decode prog_126_method_25_code 98 = .ok (.iload_n 2, 1) := by decide +kernel
theorem d16_99 : decode prog_126_method_25_code 99 = .ok (.iand, 1) := by decide +kernel
theorem d16_100 : decode prog_126_method_25_code 100 = .ok (.iload 5, 2) := by decide +kernel
theorem d16_102 : decode prog_126_method_25_code 102 = .ok (.iload 4, 2) := by decide +kernel
theorem d16_104 : decode prog_126_method_25_code 104 = .ok (.isub, 1) := by decide +kernel
theorem d16_105 : decode prog_126_method_25_code 105 = .ok (.iload_n 2, 1) := by decide +kernel
theorem d16_106 : decode prog_126_method_25_code 106 = .ok (.iand, 1) := by decide +kernel
theorem d16_107 : decode prog_126_method_25_code 107 = .ok (.if_icmp .lt 21, 3) := by decide +kernel
theorem d16_110 : decode prog_126_method_25_code 110 = .ok (.aload_n 0, 1) := by decide +kernel
theorem d16_111 : decode prog_126_method_25_code 111 = .ok (.getfield 9, 3) := by decide +kernel
theorem d16_114 : decode prog_126_method_25_code 114 = .ok (.iload 4, 2) := by decide +kernel
theorem d16_116 : decode prog_126_method_25_code 116 = .ok (.aload_n 0, 1) := by decide +kernel
theorem d16_117 : decode prog_126_method_25_code 117 = .ok (.getfield 9, 3) := by decide +kernel
theorem d16_120 : decode prog_126_method_25_code 120 = .ok (.iload 5, 2) := by decide +kernel
theorem d16_122 : decode prog_126_method_25_code 122 = .ok (.iaload, 1) := by decide +kernel
theorem d16_123 : decode prog_126_method_25_code 123 = .ok (.iastore, 1) := by decide +kernel
theorem d16_124 : decode prog_126_method_25_code 124 = .ok (.iload 5, 2) := by decide +kernel
theorem d16_126 : decode prog_126_method_25_code 126 = .ok (.istore 4, 2) := by decide +kernel
theorem d16_128 : decode prog_126_method_25_code 128 = .ok (.iload 5, 2) := by decide +kernel
theorem d16_130 : decode prog_126_method_25_code 130 = .ok (.iconst 1, 1) := by decide +kernel
theorem d16_131 : decode prog_126_method_25_code 131 = .ok (.iadd, 1) := by decide +kernel
theorem d16_132 : decode prog_126_method_25_code 132 = .ok (.iload_n 2, 1) := by decide +kernel
theorem d16_133 : decode prog_126_method_25_code 133 = .ok (.iand, 1) := by decide +kernel
theorem d16_134 : decode prog_126_method_25_code 134 = .ok (.istore 5, 2) := by decide +kernel
theorem d16_136 : decode prog_126_method_25_code 136 = .ok (.goto (-79), 3) := by decide +kernel
theorem d16_139 : decode prog_126_method_25_code 139 = .ok (.aload_n 0, 1) := by decide +kernel
theorem d16_140 : decode prog_126_method_25_code 140 = .ok (.getfield 9, 3) := by decide +kernel
theorem d16_143 : decode prog_126_method_25_code 143 = .ok (.iload 4, 2) := by decide +kernel
theorem d16_145 : decode prog_126_method_25_code 145 = .ok (.iconst 0, 1) := by decide +kernel
theorem d16_146 : decode prog_126_method_25_code 146 = .ok (.iastore, 1) := by decide +kernel
theorem d16_147 : decode prog_126_method_25_code 147 = .ok (.aload_n 0, 1) := by decide +kernel
theorem d16_148 : decode prog_126_method_25_code 148 = .ok (.getfield 41, 3) := by decide +kernel
theorem d16_151 : decode prog_126_method_25_code 151 = .ok (.iload_n 1, 1) := by decide +kernel
theorem d16_152 : decode prog_126_method_25_code 152 = .ok (.iconst 3, 1) := by decide +kernel
theorem d16_153 : decode prog_126_method_25_code 153 = .ok (.bastore, 1) := by decide +kernel
theorem d16_154 : decode prog_126_method_25_code 154 = .ok (.aload_n 0, 1) := by decide +kernel
theorem d16_155 : decode prog_126_method_25_code 155 = .ok (.dup, 1) := by decide +kernel
theorem d16_156 : decode prog_126_method_25_code 156 = .ok (.getfield 48, 3) := by decide +kernel
theorem d16_159 : decode prog_126_method_25_code 159 = .ok (.iconst 1, 1) := by decide +kernel
theorem d16_160 : decode prog_126_method_25_code 160 = .ok (.isub, 1) := by decide +kernel
theorem d16_161 : decode prog_126_method_25_code 161 = .ok (.putfield 48, 3) := by decide +kernel
theorem d16_164 : decode prog_126_method_25_code 164 = .ok (.aload_n 0, 1) := by decide +kernel
theorem d16_165 : decode prog_126_method_25_code 165 = .ok (.getfield 134, 3) := by decide +kernel
theorem d16_168 : decode prog_126_method_25_code 168 = .ok (.aload_n 0, 1) := by decide +kernel
theorem d16_169 : decode prog_126_method_25_code 169 = .ok (.getfield 27, 3) := by decide +kernel
theorem d16_172 : decode prog_126_method_25_code 172 = .ok (.arraylength, 1) := by decide +kernel
theorem d16_173 : decode prog_126_method_25_code 173 = .ok (.if_icmp .ne 20, 3) := by decide +kernel
theorem d16_193 : decode prog_126_method_25_code 193 = .ok (.aload_n 0, 1) := by decide +kernel
theorem d16_194 : decode prog_126_method_25_code 194 = .ok (.getfield 27, 3) := by decide +kernel
theorem d16_197 : decode prog_126_method_25_code 197 = .ok (.aload_n 0, 1) := by decide +kernel
theorem d16_198 : decode prog_126_method_25_code 198 = .ok (.getfield 134, 3) := by decide +kernel
theorem d16_201 : decode prog_126_method_25_code 201 = .ok (.iload_n 1, 1) := by decide +kernel
theorem d16_202 : decode prog_126_method_25_code 202 = .ok (.iastore, 1) := by decide +kernel
theorem d16_203 : decode prog_126_method_25_code 203 = .ok (.aload_n 0, 1) := by decide +kernel
theorem d16_204 : decode prog_126_method_25_code 204 = .ok (.dup, 1) := by decide +kernel
theorem d16_205 : decode prog_126_method_25_code 205 = .ok (.getfield 134, 3) := by decide +kernel
theorem d16_208 : decode prog_126_method_25_code 208 = .ok (.iconst 1, 1) := by decide +kernel
theorem d16_209 : decode prog_126_method_25_code 209 = .ok (.iadd, 1) := by decide +kernel
theorem d16_210 : decode prog_126_method_25_code 210 = .ok (.putfield 134, 3) := by decide +kernel
theorem d16_213 : decode prog_126_method_25_code 213 = .ok (.return_, 1) := by decide +kernel
theorem d17_0 : decode prog_126_method_26_code 0 = .ok (.iconst 0, 1) := by decide +kernel
theorem d17_1 : decode prog_126_method_26_code 1 = .ok (.istore_n 1, 1) := by decide +kernel
theorem d17_2 : decode prog_126_method_26_code 2 = .ok (.iload_n 1, 1) := by decide +kernel
theorem d17_3 : decode prog_126_method_26_code 3 = .ok (.aload_n 0, 1) := by decide +kernel
theorem d17_4 : decode prog_126_method_26_code 4 = .ok (.getfield 134, 3) := by decide +kernel
theorem d17_7 : decode prog_126_method_26_code 7 = .ok (.if_icmp .ge 21, 3) := by decide +kernel
theorem d17_10 : decode prog_126_method_26_code 10 = .ok (.aload_n 0, 1) := by decide +kernel
theorem d17_11 : decode prog_126_method_26_code 11 = .ok (.getfield 41, 3) := by decide +kernel
theorem d17_14 : decode prog_126_method_26_code 14 = .ok (.aload_n 0, 1) := by decide +kernel
theorem d17_15 : decode prog_126_method_26_code 15 = .ok (.getfield 27, 3) := by decide +kernel
theorem d17_18 : decode prog_126_method_26_code 18 = .ok (.iload_n 1, 1) := by decide +kernel
theorem d17_19 : decode prog_126_method_26_code 19 = .ok (.iaload, 1) := by decide +kernel
theorem d17_20 : decode prog_126_method_26_code 20 = .ok (.iconst 4, 1) := by decide +kernel
theorem d17_21 : decode prog_126_method_26_code 21 = .ok (.bastore, 1) := by decide +kernel
theorem d17_22 : decode prog_126_method_26_code 22 = .ok (.iinc 1 1, 3) := by decide +kernel
theorem d17_25 : decode prog_126_method_26_code 25 = .ok (.goto (-23), 3) := by decide +kernel
theorem d17_28 : decode prog_126_method_26_code 28 = .ok (.aload_n 0, 1) := by decide +kernel
theorem d17_29 : decode prog_126_method_26_code 29 = .ok (.aload_n 0, 1) := by decide +kernel
theorem d17_30 : decode prog_126_method_26_code 30 = .ok (.getfield 45, 3) := by decide +kernel
theorem d17_33 : decode prog_126_method_26_code 33 = .ok (.putfield 63, 3) := by decide +kernel
theorem d17_36 : decode prog_126_method_26_code 36 = .ok (.aload_n 0, 1) := by decide +kernel
theorem d17_37 : decode prog_126_method_26_code 37 = .ok (.iconst 0, 1) := by decide +kernel
theorem d17_38 : decode prog_126_method_26_code 38 = .ok (.putfield 134, 3) := by decide +kernel
theorem d17_41 : decode prog_126_method_26_code 41 = .ok (.aload_n 0, 1) := by decide +kernel
theorem d17_42 : decode prog_126_method_26_code 42 = .ok (.aload_n 0, 1) := by decide +kernel
theorem d17_43 : decode prog_126_method_26_code 43 = .ok (.getfield 48, 3) := by decide +kernel
theorem d17_46 : decode prog_126_method_26_code 46 = .ok (.putfield 66, 3) := by decide +kernel
theorem d17_49 : decode prog_126_method_26_code 49 = .ok (.return_, 1) := by decide +kernel
theorem d18_0 : decode prog_126_method_14_code 0 = .ok (.aload_n 0, 1) := by decide +kernel
theorem d18_1 : decode prog_126_method_14_code 1 = .ok (.getfield 41, 3) := by decide +kernel
theorem d18_4 : decode prog_126_method_14_code 4 = .ok (.iload_n 1, 1) := by decide +kernel
theorem d18_5 : decode prog_126_method_14_code 5 = .ok (.baload, 1) := by decide +kernel
theorem d18_6 : decode prog_126_method_14_code 6 = .ok (.ireturn, 1) := by decide +kernel
theorem d19_0 : decode prog_126_method_27_code 0 = .ok (.aload_n 0, 1) := by decide +kernel
theorem d19_1 : decode prog_126_method_27_code 1 = .ok (.getfield 63, 3) := by decide +kernel
theorem d19_4 : decode prog_126_method_27_code 4 = .ok (.ireturn, 1) := by decide +kernel
theorem d20_0 : decode prog_126_method_28_code 0 = .ok (.aload_n 0, 1) := by decide +kernel
theorem d20_1 : decode prog_126_method_28_code 1 = .ok (.getfield 134, 3) := by decide +kernel
theorem d20_4 : decode prog_126_method_28_code 4 = .ok (.ireturn, 1) := by decide +kernel
theorem d21_0 : decode prog_126_method_18_code 0 = .ok (.aload_n 0, 1) := by decide +kernel
theorem d21_1 : decode prog_126_method_18_code 1 = .ok (.getfield 66, 3) := by decide +kernel
theorem d21_4 : decode prog_126_method_18_code 4 = .ok (.ireturn, 1) := by decide +kernel
theorem d22_0 : decode prog_126_method_41_code 0 = .ok (.iload_n 1, 1) := by decide +kernel
theorem d22_1 : decode prog_126_method_41_code 1 = .ok (.aload_n 0, 1) := by decide +kernel
theorem d22_2 : decode prog_126_method_41_code 2 = .ok (.getfield 30, 3) := by decide +kernel
theorem d22_5 : decode prog_126_method_41_code 5 = .ok (.imul, 1) := by decide +kernel
theorem d22_6 : decode prog_126_method_41_code 6 = .ok (.istore 4, 2) := by decide +kernel
theorem d22_8 : decode prog_126_method_41_code 8 = .ok (.iconst 0, 1) := by decide +kernel
theorem d22_9 : decode prog_126_method_41_code 9 = .ok (.istore 5, 2) := by decide +kernel
theorem d22_11 : decode prog_126_method_41_code 11 = .ok (.iload 5, 2) := by decide +kernel
theorem d22_13 : decode prog_126_method_41_code 13 = .ok (.aload_n 0, 1) := by decide +kernel
theorem d22_14 : decode prog_126_method_41_code 14 = .ok (.getfield 30, 3) := by decide +kernel
theorem d22_17 : decode prog_126_method_41_code 17 = .ok (.if_icmp .ge 30, 3) := by decide +kernel
theorem d22_20 : decode prog_126_method_41_code 20 = .ok (.aload_n 0, 1) := by decide +kernel
theorem d22_21 : decode prog_126_method_41_code 21 = .ok (.getfield 34, 3) := by decide +kernel
theorem d22_24 : decode prog_126_method_41_code 24 = .ok (.iload 4, 2) := by decide +kernel
theorem d22_26 : decode prog_126_method_41_code 26 = .ok (.iload 5, 2) := by decide +kernel
theorem d22_28 : decode prog_126_method_41_code 28 = .ok (.iadd, 1) := by decide +kernel
theorem d22_29 : decode prog_126_method_41_code 29 = .ok (.iaload, 1) := by decide +kernel
theorem d22_30 : decode prog_126_method_41_code 30 = .ok (.aload_n 2, 1) := by decide +kernel
theorem d22_31 : decode prog_126_method_41_code 31 = .ok (.iload_n 3, 1) := by decide +kernel
theorem d22_32 : decode prog_126_method_41_code 32 = .ok (.iload 5, 2) := by decide +kernel
theorem d22_34 : decode prog_126_method_41_code 34 = .ok (.iadd, 1) := by decide +kernel
theorem d22_35 : decode prog_126_method_41_code 35 = .ok (.iaload, 1) := by decide +kernel
theorem d22_36 : decode prog_126_method_41_code 36 = .ok (.if_icmp .eq 5, 3) := by decide +kernel
theorem d22_39 : decode prog_126_method_41_code 39 = .ok (.iconst 0, 1) := by decide +kernel
theorem d22_40 : decode prog_126_method_41_code 40 = .ok (.ireturn, 1) := by decide +kernel
theorem d22_41 : decode prog_126_method_41_code 41 = .ok (.iinc 5 1, 3) := by decide +kernel
theorem d22_44 : decode prog_126_method_41_code 44 = .ok (.goto (-33), 3) := by decide +kernel
theorem d22_47 : decode prog_126_method_41_code 47 = .ok (.iconst 1, 1) := by decide +kernel
theorem d22_48 : decode prog_126_method_41_code 48 = .ok (.ireturn, 1) := by decide +kernel
theorem pd0 : parseMethodDescriptor "()V" = some ⟨[], none⟩ := by decide +kernel
theorem pd1 : parseMethodDescriptor "(II)I" = some ⟨[.int, .int], some .int⟩ := by decide +kernel
theorem pd2 : parseMethodDescriptor "(I)I" = some ⟨[.int], some .int⟩ := by decide +kernel
theorem pd3 : parseMethodDescriptor "(Ljava/util/ArrayList;)V" = some ⟨[(.object "java/util/ArrayList")], none⟩ := by decide +kernel
theorem pd4 : parseMethodDescriptor "()Ljava/util/Iterator;" = some ⟨[], some (.object "java/util/Iterator")⟩ := by decide +kernel
theorem pd5 : parseMethodDescriptor "()Z" = some ⟨[], some .boolean⟩ := by decide +kernel
theorem pd6 : parseMethodDescriptor "([II)I" = some ⟨[(.array .int), .int], some .int⟩ := by decide +kernel
theorem pd7 : parseMethodDescriptor "(I[II)Z" = some ⟨[.int, (.array .int), .int], some .boolean⟩ := by decide +kernel
theorem pd8 : parseMethodDescriptor "([IJ)Z" = some ⟨[(.array .int), .long], some .boolean⟩ := by decide +kernel
theorem pd9 : parseMethodDescriptor "(I)V" = some ⟨[.int], none⟩ := by decide +kernel
theorem pd10 : parseMethodDescriptor "([I)Z" = some ⟨[(.array .int)], some .boolean⟩ := by decide +kernel
theorem pd11 : parseMethodDescriptor "(I)B" = some ⟨[.int], some .byte⟩ := by decide +kernel
theorem pd12 : parseMethodDescriptor "()I" = some ⟨[], some .int⟩ := by decide +kernel
theorem pn_mAbsMap : plainFor (⟨"java/util/AbstractMap", "<init>", "()V"⟩ : MethodName) = true := by first | (refine plainFor_of_name ?_; simp [plainName, overriddenIn]; done) | (refine plainFor_of_name ?_; decide +kernel) | decide +kernel
set_option maxRecDepth 65536 in
set_option maxHeartbeats 40000000 in
theorem mAbsMap (l : Launch) (Z : State) (n0 : Nat) (a0 : Array Value) (hw : ∀ d ∈ tables_1, d.before a0 Z = true) (σ : Asn) (h : Addr) : Sp l Z n0 (⟨"java/util/AbstractMap", "<init>", "()V"⟩ : MethodName) jdk_71_method_1_code 1 none ({ frames := 1, cells := 0, slots := 0, locals := 12 } : Room) [(.ref h)] (σ) (Ret none σ) := by
  refine Sp.of (ls := #[.val (.ref h)]) pn_mAbsMap (fun m => by first | (simp [entryFrame, mkF, argsToLocals, Value.category]; done) | rfl) ?_
  show W _ _ _ _ _ _ 0 0 (σ) 0 #[.val (.ref h)] []
  refine W.aloadN d4_0 (pc' := 1) rfl rfl rfl ?_
  refine W.initO d4_1 (wd hw 24 rfl) (wd hw 7 rfl) (wd hw 8 rfl) rfl (Nat.le_of_ble_eq_true rfl) (Nat.le_of_ble_eq_true rfl) (pc' := 4) rfl ?_
  exact W.retV d4_4 rfl (by decide) (by decide) ⟨rfl, rfl⟩
theorem pn_mHM : plainFor (⟨"java/util/HashMap", "<init>", "()V"⟩ : MethodName) = true := by first | (refine plainFor_of_name ?_; simp [plainName, overriddenIn]; done) | (refine plainFor_of_name ?_; decide +kernel) | decide +kernel
set_option maxRecDepth 65536 in
set_option maxHeartbeats 40000000 in
theorem mHM (l : Launch) (Z : State) (n0 : Nat) (a0 : Array Value) (hw : ∀ d ∈ tables_1, d.before a0 Z = true) (F : Asn) (h : Addr) : Sp l Z n0 (⟨"java/util/HashMap", "<init>", "()V"⟩ : MethodName) jdk_69_method_7_code 1 none ({ frames := 2, cells := 0, slots := 0, locals := 24 } : Room) [(.ref h)] ((h, (ShHM Z (.float (0 : UInt32)))) :: F) (Ret none ((h, (ShHM Z (.float (1061158912 : UInt32)))) :: F)) := by
  refine Sp.of (ls := #[.val (.ref h)]) pn_mHM (fun m => by first | (simp [entryFrame, mkF, argsToLocals, Value.category]; done) | rfl) ?_
  show W _ _ _ _ _ _ 0 0 ((h, (ShHM Z (.float (0 : UInt32)))) :: F) 0 #[.val (.ref h)] []
  refine W.aloadN d3_0 (pc' := 1) rfl rfl rfl ?_
  refine W.callI (mAbsMap l Z n0 a0 hw ((h, (ShHM Z (.float (0 : UInt32)))) :: F) h) d3_1 rfl (wd hw 18 rfl) (wd hw 19 rfl) (wd hw 22 rfl) (wd hw 23 rfl) (by decide) pd0 rfl rfl (Nat.le_of_ble_eq_true rfl) (Nat.le_of_ble_eq_true rfl) (Nat.le_of_ble_eq_true rfl) (Nat.le_of_ble_eq_true rfl) rfl (pc' := 4) rfl ?_
  intro v9 s9 q9
  rw [q9.1, q9.2]
  clear q9 v9 s9
  show W _ _ _ _ _ _ 0 0 ((h, (ShHM Z (.float (0 : UInt32)))) :: F) 4 #[.val (.ref h)] []
  refine W.aloadN d3_4 (pc' := 5) rfl rfl rfl ?_
  refine W.ldcF d3_5 (wd hw 25 rfl) (pc' := 7) rfl ?_
  refine W.putF ((h, (ShHM Z (.float (1061158912 : UInt32)))) :: F) 0 0 d3_7 (host := "") (Or.inl (wd hw 26 rfl)) Via.refl (Or.inr ⟨(wd hw 27 rfl), rfl, rfl⟩) (wd hw 13 rfl) (ty := .float) (by decide) rfl rfl rfl rfl rfl (pc' := 10) rfl ?_
  exact W.retV d3_10 rfl (by decide) (by decide) ⟨rfl, rfl⟩
theorem pn_mAbsCol : plainFor (⟨"java/util/AbstractCollection", "<init>", "()V"⟩ : MethodName) = true := by first | (refine plainFor_of_name ?_; simp [plainName, overriddenIn]; done) | (refine plainFor_of_name ?_; decide +kernel) | decide +kernel
set_option maxRecDepth 65536 in
set_option maxHeartbeats 40000000 in
theorem mAbsCol (l : Launch) (Z : State) (n0 : Nat) (a0 : Array Value) (hw : ∀ d ∈ tables_1, d.before a0 Z = true) (σ : Asn) (h : Addr) : Sp l Z n0 (⟨"java/util/AbstractCollection", "<init>", "()V"⟩ : MethodName) jdk_22_method_1_code 1 none ({ frames := 1, cells := 0, slots := 0, locals := 12 } : Room) [(.ref h)] (σ) (Ret none σ) := by
  refine Sp.of (ls := #[.val (.ref h)]) pn_mAbsCol (fun m => by first | (simp [entryFrame, mkF, argsToLocals, Value.category]; done) | rfl) ?_
  show W _ _ _ _ _ _ 0 0 (σ) 0 #[.val (.ref h)] []
  refine W.aloadN d7_0 (pc' := 1) rfl rfl rfl ?_
  refine W.initO d7_1 (wd hw 48 rfl) (wd hw 7 rfl) (wd hw 8 rfl) rfl (Nat.le_of_ble_eq_true rfl) (Nat.le_of_ble_eq_true rfl) (pc' := 4) rfl ?_
  exact W.retV d7_4 rfl (by decide) (by decide) ⟨rfl, rfl⟩
theorem pn_mAbsList : plainFor (⟨"java/util/AbstractList", "<init>", "()V"⟩ : MethodName) = true := by first | (refine plainFor_of_name ?_; simp [plainName, overriddenIn]; done) | (refine plainFor_of_name ?_; decide +kernel) | decide +kernel
set_option maxRecDepth 65536 in
set_option maxHeartbeats 40000000 in
theorem mAbsList (l : Launch) (Z : State) (n0 : Nat) (a0 : Array Value) (hw : ∀ d ∈ tables_1, d.before a0 Z = true) (F : Asn) (h : Addr) : Sp l Z n0 (⟨"java/util/AbstractList", "<init>", "()V"⟩ : MethodName) jdk_39_method_1_code 1 none ({ frames := 2, cells := 0, slots := 0, locals := 24 } : Room) [(.ref h)] ((h, (ShAL Z (.int (0 : Int32)) .null (.int (0 : Int32)))) :: F) (Ret none ((h, (ShAL Z (.int (0 : Int32)) .null (.int (0 : Int32)))) :: F)) := by
  refine Sp.of (ls := #[.val (.ref h)]) pn_mAbsList (fun m => by first | (simp [entryFrame, mkF, argsToLocals, Value.category]; done) | rfl) ?_
  show W _ _ _ _ _ _ 0 0 ((h, (ShAL Z (.int (0 : Int32)) .null (.int (0 : Int32)))) :: F) 0 #[.val (.ref h)] []
  refine W.aloadN d6_0 (pc' := 1) rfl rfl rfl ?_
  refine W.callI (mAbsCol l Z n0 a0 hw ((h, (ShAL Z (.int (0 : Int32)) .null (.int (0 : Int32)))) :: F) h) d6_1 rfl (wd hw 42 rfl) (wd hw 43 rfl) (wd hw 46 rfl) (wd hw 47 rfl) (by decide) pd0 rfl rfl (Nat.le_of_ble_eq_true rfl) (Nat.le_of_ble_eq_true rfl) (Nat.le_of_ble_eq_true rfl) (Nat.le_of_ble_eq_true rfl) rfl (pc' := 4) rfl ?_
  intro v9 s9 q9
  rw [q9.1, q9.2]
  clear q9 v9 s9
  show W _ _ _ _ _ _ 0 0 ((h, (ShAL Z (.int (0 : Int32)) .null (.int (0 : Int32)))) :: F) 4 #[.val (.ref h)] []
  refine W.aloadN d6_4 (pc' := 5) rfl rfl rfl ?_
  refine W.iconst (0 : Int32) d6_5 (pc' := 6) rfl rfl ?_
  refine W.putF ((h, (ShAL Z (.int (0 : Int32)) .null (.int (0 : Int32)))) :: F) 0 0 d6_6 (host := "") (Or.inl (wd hw 49 rfl)) Via.refl (Or.inl (wd hw 50 rfl)) (wd hw 31 rfl) (ty := .int) (by decide) rfl rfl rfl rfl rfl (pc' := 9) rfl ?_
  exact W.retV d6_9 rfl (by decide) (by decide) ⟨rfl, rfl⟩
theorem pn_mAL : plainFor (⟨"java/util/ArrayList", "<init>", "()V"⟩ : MethodName) = true := by first | (refine plainFor_of_name ?_; simp [plainName, overriddenIn]; done) | (refine plainFor_of_name ?_; decide +kernel) | decide +kernel
set_option maxRecDepth 65536 in
set_option maxHeartbeats 40000000 in
theorem mAL (l : Launch) (Z : State) (n0 : Nat) (a0 : Array Value) (hw : ∀ d ∈ tables_1, d.before a0 Z = true) (dv : Value) (hdr : dv.isRef = true) (hdv : Sta Z Z.heap "java/util/ArrayList" "DEFAULTCAPACITY_EMPTY_ELEMENTDATA" "[Ljava/lang/Object;" dv) (F : Asn) (h : Addr) : Sp l Z n0 (⟨"java/util/ArrayList", "<init>", "()V"⟩ : MethodName) jdk_38_method_2_code 1 none ({ frames := 3, cells := 0, slots := 0, locals := 36 } : Room) [(.ref h)] ((h, (ShAL Z (.int (0 : Int32)) .null (.int (0 : Int32)))) :: F) (Ret none ((h, (ShAL Z (.int (0 : Int32)) dv (.int (0 : Int32)))) :: F)) := by
  refine Sp.of (ls := #[.val (.ref h)]) pn_mAL (fun m => by first | (simp [entryFrame, mkF, argsToLocals, Value.category]; done) | rfl) ?_
  show W _ _ _ _ _ _ 0 0 ((h, (ShAL Z (.int (0 : Int32)) .null (.int (0 : Int32)))) :: F) 0 #[.val (.ref h)] []
  refine W.aloadN d5_0 (pc' := 1) rfl rfl rfl ?_
  refine W.callI (mAbsList l Z n0 a0 hw F h) d5_1 rfl (wd hw 36 rfl) (wd hw 37 rfl) (wd hw 40 rfl) (wd hw 41 rfl) (by decide) pd0 rfl rfl (Nat.le_of_ble_eq_true rfl) (Nat.le_of_ble_eq_true rfl) (Nat.le_of_ble_eq_true rfl) (Nat.le_of_ble_eq_true rfl) rfl (pc' := 4) rfl ?_
  intro v9 s9 q9
  rw [q9.1, q9.2]
  clear q9 v9 s9
  show W _ _ _ _ _ _ 0 0 ((h, (ShAL Z (.int (0 : Int32)) .null (.int (0 : Int32)))) :: F) 4 #[.val (.ref h)] []
  refine W.aloadN d5_4 (pc' := 5) rfl rfl rfl ?_
  refine W.getS d5_5 (wd hw 51 rfl) Via.refl hdv (pc' := 8) rfl ?_
  refine W.putF ((h, (ShAL Z (.int (0 : Int32)) dv (.int (0 : Int32)))) :: F) 0 1 d5_8 (host := "") (Or.inl (wd hw 52 rfl)) Via.refl (Or.inl (wd hw 53 rfl)) (wd hw 31 rfl) (ty := (.array (.object "java/lang/Object"))) (by decide) (nar_ref hdr) (fit_refA hdr) rfl rfl rfl (pc' := 11) rfl ?_
  exact W.retV d5_11 rfl (by decide) (by decide) ⟨rfl, rfl⟩
theorem pn_mMix : plainFor (⟨"com/example/mendb/mendb/TupleStore", "mix", "(II)I"⟩ : MethodName) = true := by first | (refine plainFor_of_name ?_; simp [plainName, overriddenIn]; done) | (refine plainFor_of_name ?_; decide +kernel) | decide +kernel
set_option maxRecDepth 65536 in
set_option maxHeartbeats 40000000 in
theorem mMix (l : Launch) (Z : State) (n0 : Nat) (a0 : Array Value) (hw : ∀ d ∈ tables_1, d.before a0 Z = true) (σ : Asn) (h v : Int32) : Sp l Z n0 (⟨"com/example/mendb/mendb/TupleStore", "mix", "(II)I"⟩ : MethodName) prog_126_method_44_code 2 (some .int) ({ frames := 0, cells := 0, slots := 0, locals := 0 } : Room) [(.int h), (.int v)] (σ) (Ret (some (.int (own_mix h v))) σ) := by
  refine Sp.of (ls := #[.val (.int h), .val (.int v)]) pn_mMix (fun m => by first | (simp [entryFrame, mkF, argsToLocals, Value.category]; done) | rfl) ?_
  show W _ _ _ _ _ _ 0 0 (σ) 0 #[.val (.int h), .val (.int v)] []
  refine W.iloadN d11_0 (pc' := 1) rfl rfl ?_
  refine W.iloadN d11_1 (pc' := 2) rfl rfl ?_
  refine W.iadd d11_2 (pc' := 3) rfl ?_
  refine W.ldcI d11_3 (wd hw 87 rfl) (pc' := 5) rfl ?_
  refine W.imul d11_5 (pc' := 6) rfl ?_
  exact W.retI d11_6 rfl (by decide) (by decide) ⟨rfl, rfl⟩
theorem pn_mFin : plainFor (⟨"com/example/mendb/mendb/TupleStore", "finish", "(I)I"⟩ : MethodName) = true := by first | (refine plainFor_of_name ?_; simp [plainName, overriddenIn]; done) | (refine plainFor_of_name ?_; decide +kernel) | decide +kernel
set_option maxRecDepth 65536 in
set_option maxHeartbeats 40000000 in
theorem mFin (l : Launch) (Z : State) (n0 : Nat) (a0 : Array Value) (hw : ∀ d ∈ tables_1, d.before a0 Z = true) (σ : Asn) (h : Int32) : Sp l Z n0 (⟨"com/example/mendb/mendb/TupleStore", "finish", "(I)I"⟩ : MethodName) prog_126_method_45_code 2 (some .int) ({ frames := 0, cells := 0, slots := 0, locals := 0 } : Room) [(.int h)] (σ) (Ret (some (.int (own_fin h))) σ) := by
  refine Sp.of (ls := #[.val (.int h), .unset]) pn_mFin (fun m => by first | (simp [entryFrame, mkF, argsToLocals, Value.category]; done) | rfl) ?_
  show W _ _ _ _ _ _ 0 0 (σ) 0 #[.val (.int h), .unset] []
  refine W.iloadN d12_0 (pc' := 1) rfl rfl ?_
  refine W.iloadN d12_1 (pc' := 2) rfl rfl ?_
  refine W.bipush (16 : Int32) d12_2 (pc' := 4) rfl rfl ?_
  refine W.iushr d12_4 (pc' := 5) rfl ?_
  refine W.ixor d12_5 (pc' := 6) rfl ?_
  refine W.istoreN #[.val (.int h), .val (.int (h ^^^ (XT.ushr h (16 : Int32))))] d12_6 (pc' := 7) rfl rfl ?_
  refine W.iloadN d12_7 (pc' := 8) rfl rfl ?_
  refine W.ldcI d12_8 (wd hw 91 rfl) (pc' := 10) rfl ?_
  refine W.imul d12_10 (pc' := 11) rfl ?_
  refine W.istoreN #[.val (.int h), .val (.int ((h ^^^ (XT.ushr h (16 : Int32))) * (-2048144789 : Int32)))] d12_11 (pc' := 12) rfl rfl ?_
  refine W.iloadN d12_12 (pc' := 13) rfl rfl ?_
  refine W.iloadN d12_13 (pc' := 14) rfl rfl ?_
  refine W.bipush (13 : Int32) d12_14 (pc' := 16) rfl rfl ?_
  refine W.iushr d12_16 (pc' := 17) rfl ?_
  refine W.ixor d12_17 (pc' := 18) rfl ?_
  refine W.istoreN #[.val (.int h), .val (.int (((h ^^^ (XT.ushr h (16 : Int32))) * (-2048144789 : Int32)) ^^^ (XT.ushr ((h ^^^ (XT.ushr h (16 : Int32))) * (-2048144789 : Int32)) (13 : Int32))))] d12_18 (pc' := 19) rfl rfl ?_
  refine W.iloadN d12_19 (pc' := 20) rfl rfl ?_
  refine W.ldcI d12_20 (wd hw 92 rfl) (pc' := 22) rfl ?_
  refine W.imul d12_22 (pc' := 23) rfl ?_
  refine W.istoreN #[.val (.int h), .val (.int ((((h ^^^ (XT.ushr h (16 : Int32))) * (-2048144789 : Int32)) ^^^ (XT.ushr ((h ^^^ (XT.ushr h (16 : Int32))) * (-2048144789 : Int32)) (13 : Int32))) * (-1028477387 : Int32)))] d12_23 (pc' := 24) rfl rfl ?_
  refine W.iloadN d12_24 (pc' := 25) rfl rfl ?_
  refine W.iloadN d12_25 (pc' := 26) rfl rfl ?_
  refine W.bipush (16 : Int32) d12_26 (pc' := 28) rfl rfl ?_
  refine W.iushr d12_28 (pc' := 29) rfl ?_
  refine W.ixor d12_29 (pc' := 30) rfl ?_
  exact W.retI d12_30 rfl (by decide) (by decide) ⟨rfl, rfl⟩
theorem pn_mHash0 : plainFor (⟨"com/example/mendb/mendb/TupleStore", "hash", "([II)I"⟩ : MethodName) = true := by first | (refine plainFor_of_name ?_; simp [plainName, overriddenIn]; done) | (refine plainFor_of_name ?_; decide +kernel) | decide +kernel
set_option maxRecDepth 65536 in
set_option maxHeartbeats 40000000 in
theorem mHash0 (l : Launch) (Z : State) (n0 : Nat) (a0 : Array Value) (hw : ∀ d ∈ tables_1, d.before a0 Z = true) (F : Asn) (t ar : Addr) (u0 u1 u2 u3 u5 u6 u7 u8 u9 u10 u11 u12 u13 : Value) (xs : List Int32) (x : Int32) (hx : xs[0]? = some x) : Sp l Z n0 (⟨"com/example/mendb/mendb/TupleStore", "hash", "([II)I"⟩ : MethodName) prog_126_method_42_code 5 (some .int) ({ frames := 1, cells := 0, slots := 0, locals := 13 } : Room) [(.ref t), (.ref ar), (.int (0 : Int32))] ((t, (ShTS Z u0 u1 u2 u3 (.int (1 : Int32)) u5 u6 u7 u8 u9 u10 u11 u12 u13)) :: (ar, (IA Z .int xs)) :: F) (Ret (some (.int (own_h x))) ((t, (ShTS Z u0 u1 u2 u3 (.int (1 : Int32)) u5 u6 u7 u8 u9 u10 u11 u12 u13)) :: (ar, IA Z .int xs) :: F)) := by
  refine Sp.of (ls := #[.val (.ref t), .val (.ref ar), .val (.int (0 : Int32)), .unset, .unset]) pn_mHash0 (fun m => by first | (simp [entryFrame, mkF, argsToLocals, Value.category]; done) | rfl) ?_
  show W _ _ _ _ _ _ 0 0 ((t, (ShTS Z u0 u1 u2 u3 (.int (1 : Int32)) u5 u6 u7 u8 u9 u10 u11 u12 u13)) :: (ar, (IA Z .int xs)) :: F) 0 #[.val (.ref t), .val (.ref ar), .val (.int (0 : Int32)), .unset, .unset] []
  refine W.iconst (0 : Int32) d10_0 (pc' := 1) rfl rfl ?_
  refine W.istoreN #[.val (.ref t), .val (.ref ar), .val (.int (0 : Int32)), .val (.int (0 : Int32)), .unset] d10_1 (pc' := 2) rfl rfl ?_
  refine W.iconst (0 : Int32) d10_2 (pc' := 3) rfl rfl ?_
  refine W.istore #[.val (.ref t), .val (.ref ar), .val (.int (0 : Int32)), .val (.int (0 : Int32)), .val (.int (0 : Int32))] d10_3 (pc' := 5) rfl rfl ?_
  refine W.iload d10_5 (pc' := 7) rfl rfl ?_
  refine W.aloadN d10_7 (pc' := 8) rfl rfl rfl ?_
  refine W.getF 0 4 d10_8 (host := "") (Or.inl (wd hw 58 rfl)) Via.refl rfl rfl (pc' := 11) rfl ?_
  refine W.icmpN d10_11 (by decide) (pc' := 14) rfl ?_
  refine W.iloadN d10_14 (pc' := 15) rfl rfl ?_
  refine W.aloadN d10_15 (pc' := 16) rfl rfl rfl ?_
  refine W.iloadN d10_16 (pc' := 17) rfl rfl ?_
  refine W.iload d10_17 (pc' := 19) rfl rfl ?_
  refine W.iadd d10_19 (pc' := 20) rfl ?_
  refine W.topI (0 : Int32) (by decide) ?_
  refine W.iaload 1 0 (x := x) d10_20 rfl (by decide) rfl hx (pc' := 21) rfl ?_
  refine W.callS (mMix l Z n0 a0 hw ((t, (ShTS Z u0 u1 u2 u3 (.int (1 : Int32)) u5 u6 u7 u8 u9 u10 u11 u12 u13)) :: (ar, (IA Z .int xs)) :: F) 0 x) d10_21 (wd hw 84 rfl) (wd hw 85 rfl) (wd hw 2 rfl) (wd hw 86 rfl) (by decide) pd1 rfl rfl (Nat.le_of_ble_eq_true rfl) (Nat.le_of_ble_eq_true rfl) (Nat.le_of_ble_eq_true rfl) (Nat.le_of_ble_eq_true rfl) rfl (pc' := 24) rfl ?_
  intro v9 s9 q9
  rw [q9.1, q9.2]
  clear q9 v9 s9
  show W _ _ _ _ _ _ 0 0 ((t, (ShTS Z u0 u1 u2 u3 (.int (1 : Int32)) u5 u6 u7 u8 u9 u10 u11 u12 u13)) :: (ar, (IA Z .int xs)) :: F) 24 #[.val (.ref t), .val (.ref ar), .val (.int (0 : Int32)), .val (.int (0 : Int32)), .val (.int (0 : Int32))] [(.int (own_mix 0 x))]
  refine W.istoreN #[.val (.ref t), .val (.ref ar), .val (.int (0 : Int32)), .val (.int (own_mix 0 x)), .val (.int (0 : Int32))] d10_24 (pc' := 25) rfl rfl ?_
  refine W.iinc #[.val (.ref t), .val (.ref ar), .val (.int (0 : Int32)), .val (.int (own_mix 0 x)), .val (.int (1 : Int32))] (1 : Int32) (1 : Int32) d10_25 (pc' := 28) rfl rfl rfl (by decide) rfl ?_
  refine W.goto d10_28 (pc' := 5) (by decide) rfl ?_
  refine W.iload d10_5 (pc' := 7) rfl rfl ?_
  refine W.aloadN d10_7 (pc' := 8) rfl rfl rfl ?_
  refine W.getF 0 4 d10_8 (host := "") (Or.inl (wd hw 58 rfl)) Via.refl rfl rfl (pc' := 11) rfl ?_
  refine W.icmpY d10_11 (by decide) (by decide) (pc' := 31) rfl ?_
  refine W.iloadN d10_31 (pc' := 32) rfl rfl ?_
  refine W.callS (mFin l Z n0 a0 hw ((t, (ShTS Z u0 u1 u2 u3 (.int (1 : Int32)) u5 u6 u7 u8 u9 u10 u11 u12 u13)) :: (ar, (IA Z .int xs)) :: F) (own_mix 0 x)) d10_32 (wd hw 88 rfl) (wd hw 89 rfl) (wd hw 2 rfl) (wd hw 90 rfl) (by decide) pd2 rfl rfl (Nat.le_of_ble_eq_true rfl) (Nat.le_of_ble_eq_true rfl) (Nat.le_of_ble_eq_true rfl) (Nat.le_of_ble_eq_true rfl) rfl (pc' := 35) rfl ?_
  intro v9 s9 q9
  rw [q9.1, q9.2]
  clear q9 v9 s9
  show W _ _ _ _ _ _ 0 0 ((t, (ShTS Z u0 u1 u2 u3 (.int (1 : Int32)) u5 u6 u7 u8 u9 u10 u11 u12 u13)) :: (ar, (IA Z .int xs)) :: F) 35 #[.val (.ref t), .val (.ref ar), .val (.int (0 : Int32)), .val (.int (own_mix 0 x)), .val (.int (1 : Int32))] [(.int (own_h x))]
  exact W.retI d10_35 rfl (by decide) (by decide) ⟨rfl, rfl⟩
theorem pn_mHash1 : plainFor (⟨"com/example/mendb/mendb/TupleStore", "hash", "([II)I"⟩ : MethodName) = true := by first | (refine plainFor_of_name ?_; simp [plainName, overriddenIn]; done) | (refine plainFor_of_name ?_; decide +kernel) | decide +kernel
set_option maxRecDepth 65536 in
set_option maxHeartbeats 40000000 in
theorem mHash1 (l : Launch) (Z : State) (n0 : Nat) (a0 : Array Value) (hw : ∀ d ∈ tables_1, d.before a0 Z = true) (F : Asn) (t ar : Addr) (u0 u1 u2 u3 u5 u6 u7 u8 u9 u10 u11 u12 u13 : Value) (xs : List Int32) (x : Int32) (hx : xs[1]? = some x) : Sp l Z n0 (⟨"com/example/mendb/mendb/TupleStore", "hash", "([II)I"⟩ : MethodName) prog_126_method_42_code 5 (some .int) ({ frames := 1, cells := 0, slots := 0, locals := 13 } : Room) [(.ref t), (.ref ar), (.int (1 : Int32))] ((t, (ShTS Z u0 u1 u2 u3 (.int (1 : Int32)) u5 u6 u7 u8 u9 u10 u11 u12 u13)) :: (ar, (IA Z .int xs)) :: F) (Ret (some (.int (own_h x))) ((t, (ShTS Z u0 u1 u2 u3 (.int (1 : Int32)) u5 u6 u7 u8 u9 u10 u11 u12 u13)) :: (ar, IA Z .int xs) :: F)) := by
  refine Sp.of (ls := #[.val (.ref t), .val (.ref ar), .val (.int (1 : Int32)), .unset, .unset]) pn_mHash1 (fun m => by first | (simp [entryFrame, mkF, argsToLocals, Value.category]; done) | rfl) ?_
  show W _ _ _ _ _ _ 0 0 ((t, (ShTS Z u0 u1 u2 u3 (.int (1 : Int32)) u5 u6 u7 u8 u9 u10 u11 u12 u13)) :: (ar, (IA Z .int xs)) :: F) 0 #[.val (.ref t), .val (.ref ar), .val (.int (1 : Int32)), .unset, .unset] []
  refine W.iconst (0 : Int32) d10_0 (pc' := 1) rfl rfl ?_
  refine W.istoreN #[.val (.ref t), .val (.ref ar), .val (.int (1 : Int32)), .val (.int (0 : Int32)), .unset] d10_1 (pc' := 2) rfl rfl ?_
  refine W.iconst (0 : Int32) d10_2 (pc' := 3) rfl rfl ?_
  refine W.istore #[.val (.ref t), .val (.ref ar), .val (.int (1 : Int32)), .val (.int (0 : Int32)), .val (.int (0 : Int32))] d10_3 (pc' := 5) rfl rfl ?_
  refine W.iload d10_5 (pc' := 7) rfl rfl ?_
  refine W.aloadN d10_7 (pc' := 8) rfl rfl rfl ?_
  refine W.getF 0 4 d10_8 (host := "") (Or.inl (wd hw 58 rfl)) Via.refl rfl rfl (pc' := 11) rfl ?_
  refine W.icmpN d10_11 (by decide) (pc' := 14) rfl ?_
  refine W.iloadN d10_14 (pc' := 15) rfl rfl ?_
  refine W.aloadN d10_15 (pc' := 16) rfl rfl rfl ?_
  refine W.iloadN d10_16 (pc' := 17) rfl rfl ?_
  refine W.iload d10_17 (pc' := 19) rfl rfl ?_
  refine W.iadd d10_19 (pc' := 20) rfl ?_
  refine W.topI (1 : Int32) (by decide) ?_
  refine W.iaload 1 1 (x := x) d10_20 rfl (by decide) rfl hx (pc' := 21) rfl ?_
  refine W.callS (mMix l Z n0 a0 hw ((t, (ShTS Z u0 u1 u2 u3 (.int (1 : Int32)) u5 u6 u7 u8 u9 u10 u11 u12 u13)) :: (ar, (IA Z .int xs)) :: F) 0 x) d10_21 (wd hw 84 rfl) (wd hw 85 rfl) (wd hw 2 rfl) (wd hw 86 rfl) (by decide) pd1 rfl rfl (Nat.le_of_ble_eq_true rfl) (Nat.le_of_ble_eq_true rfl) (Nat.le_of_ble_eq_true rfl) (Nat.le_of_ble_eq_true rfl) rfl (pc' := 24) rfl ?_
  intro v9 s9 q9
  rw [q9.1, q9.2]
  clear q9 v9 s9
  show W _ _ _ _ _ _ 0 0 ((t, (ShTS Z u0 u1 u2 u3 (.int (1 : Int32)) u5 u6 u7 u8 u9 u10 u11 u12 u13)) :: (ar, (IA Z .int xs)) :: F) 24 #[.val (.ref t), .val (.ref ar), .val (.int (1 : Int32)), .val (.int (0 : Int32)), .val (.int (0 : Int32))] [(.int (own_mix 0 x))]
  refine W.istoreN #[.val (.ref t), .val (.ref ar), .val (.int (1 : Int32)), .val (.int (own_mix 0 x)), .val (.int (0 : Int32))] d10_24 (pc' := 25) rfl rfl ?_
  refine W.iinc #[.val (.ref t), .val (.ref ar), .val (.int (1 : Int32)), .val (.int (own_mix 0 x)), .val (.int (1 : Int32))] (1 : Int32) (1 : Int32) d10_25 (pc' := 28) rfl rfl rfl (by decide) rfl ?_
  refine W.goto d10_28 (pc' := 5) (by decide) rfl ?_
  refine W.iload d10_5 (pc' := 7) rfl rfl ?_
  refine W.aloadN d10_7 (pc' := 8) rfl rfl rfl ?_
  refine W.getF 0 4 d10_8 (host := "") (Or.inl (wd hw 58 rfl)) Via.refl rfl rfl (pc' := 11) rfl ?_
  refine W.icmpY d10_11 (by decide) (by decide) (pc' := 31) rfl ?_
  refine W.iloadN d10_31 (pc' := 32) rfl rfl ?_
  refine W.callS (mFin l Z n0 a0 hw ((t, (ShTS Z u0 u1 u2 u3 (.int (1 : Int32)) u5 u6 u7 u8 u9 u10 u11 u12 u13)) :: (ar, (IA Z .int xs)) :: F) (own_mix 0 x)) d10_32 (wd hw 88 rfl) (wd hw 89 rfl) (wd hw 2 rfl) (wd hw 90 rfl) (by decide) pd2 rfl rfl (Nat.le_of_ble_eq_true rfl) (Nat.le_of_ble_eq_true rfl) (Nat.le_of_ble_eq_true rfl) (Nat.le_of_ble_eq_true rfl) rfl (pc' := 35) rfl ?_
  intro v9 s9 q9
  rw [q9.1, q9.2]
  clear q9 v9 s9
  show W _ _ _ _ _ _ 0 0 ((t, (ShTS Z u0 u1 u2 u3 (.int (1 : Int32)) u5 u6 u7 u8 u9 u10 u11 u12 u13)) :: (ar, (IA Z .int xs)) :: F) 35 #[.val (.ref t), .val (.ref ar), .val (.int (1 : Int32)), .val (.int (own_mix 0 x)), .val (.int (1 : Int32))] [(.int (own_h x))]
  exact W.retI d10_35 rfl (by decide) (by decide) ⟨rfl, rfl⟩
theorem pn_mEq : plainFor (⟨"com/example/mendb/mendb/TupleStore", "equals", "(I[II)Z"⟩ : MethodName) = true := by first | (refine plainFor_of_name ?_; simp [plainName, overriddenIn]; done) | (refine plainFor_of_name ?_; decide +kernel) | decide +kernel
set_option maxRecDepth 65536 in
set_option maxHeartbeats 40000000 in
theorem mEq (l : Launch) (Z : State) (n0 : Nat) (a0 : Array Value) (hw : ∀ d ∈ tables_1, d.before a0 Z = true) (F : Asn) (t va tu : Addr) (u0 u1 u2 u3 u5 u6 u7 u8 u9 u10 u11 u12 u13 : Value) (vs : List Int32) (x y : Int32) (hx : vs[0]? = some x) : Sp l Z n0 (⟨"com/example/mendb/mendb/TupleStore", "equals", "(I[II)Z"⟩ : MethodName) prog_126_method_41_code 6 (some .boolean) ({ frames := 0, cells := 0, slots := 0, locals := 0 } : Room) [(.ref t), (.int (0 : Int32)), (.ref tu), (.int (0 : Int32))] ((t, (ShTS Z u0 u1 u2 u3 (.int (1 : Int32)) (.ref va) u6 u7 u8 u9 u10 u11 u12 u13)) :: (va, (IA Z .int vs)) :: (tu, (IA Z .int [y])) :: F) (Ret (some (.int (if x = y then 1 else 0))) ((t, (ShTS Z u0 u1 u2 u3 (.int (1 : Int32)) (.ref va) u6 u7 u8 u9 u10 u11 u12 u13)) :: (va, IA Z .int vs) :: (tu, IA Z .int [y]) :: F)) := by
  refine Sp.of (ls := #[.val (.ref t), .val (.int (0 : Int32)), .val (.ref tu), .val (.int (0 : Int32)), .unset, .unset]) pn_mEq (fun m => by first | (simp [entryFrame, mkF, argsToLocals, Value.category]; done) | rfl) ?_
  show W _ _ _ _ _ _ 0 0 ((t, (ShTS Z u0 u1 u2 u3 (.int (1 : Int32)) (.ref va) u6 u7 u8 u9 u10 u11 u12 u13)) :: (va, (IA Z .int vs)) :: (tu, (IA Z .int [y])) :: F) 0 #[.val (.ref t), .val (.int (0 : Int32)), .val (.ref tu), .val (.int (0 : Int32)), .unset, .unset] []
  refine W.iloadN d22_0 (pc' := 1) rfl rfl ?_
  refine W.aloadN d22_1 (pc' := 2) rfl rfl rfl ?_
  refine W.getF 0 4 d22_2 (host := "") (Or.inl (wd hw 58 rfl)) Via.refl rfl rfl (pc' := 5) rfl ?_
  refine W.imul d22_5 (pc' := 6) rfl ?_
  refine W.topI (0 : Int32) (by decide) ?_
  refine W.istore #[.val (.ref t), .val (.int (0 : Int32)), .val (.ref tu), .val (.int (0 : Int32)), .val (.int (0 : Int32)), .unset] d22_6 (pc' := 8) rfl rfl ?_
  refine W.iconst (0 : Int32) d22_8 (pc' := 9) rfl rfl ?_
  refine W.istore #[.val (.ref t), .val (.int (0 : Int32)), .val (.ref tu), .val (.int (0 : Int32)), .val (.int (0 : Int32)), .val (.int (0 : Int32))] d22_9 (pc' := 11) rfl rfl ?_
  refine W.iload d22_11 (pc' := 13) rfl rfl ?_
  refine W.aloadN d22_13 (pc' := 14) rfl rfl rfl ?_
  refine W.getF 0 4 d22_14 (host := "") (Or.inl (wd hw 58 rfl)) Via.refl rfl rfl (pc' := 17) rfl ?_
  refine W.icmpN d22_17 (by decide) (pc' := 20) rfl ?_
  refine W.aloadN d22_20 (pc' := 21) rfl rfl rfl ?_
  refine W.getF 0 5 d22_21 (host := "") (Or.inl (wd hw 60 rfl)) Via.refl rfl rfl (pc' := 24) rfl ?_
  refine W.iload d22_24 (pc' := 26) rfl rfl ?_
  refine W.iload d22_26 (pc' := 28) rfl rfl ?_
  refine W.iadd d22_28 (pc' := 29) rfl ?_
  refine W.topI (0 : Int32) (by decide) ?_
  refine W.iaload 1 0 (x := x) d22_29 rfl (by decide) rfl hx (pc' := 30) rfl ?_
  refine W.aloadN d22_30 (pc' := 31) rfl rfl rfl ?_
  refine W.iloadN d22_31 (pc' := 32) rfl rfl ?_
  refine W.iload d22_32 (pc' := 34) rfl rfl ?_
  refine W.iadd d22_34 (pc' := 35) rfl ?_
  refine W.topI (0 : Int32) (by decide) ?_
  refine W.iaload 2 0 (x := y) d22_35 rfl (by decide) rfl rfl (pc' := 36) rfl ?_
  by_cases h1 : x = y
  · refine W.icmpY d22_36 (XT.ii_eq_t h1) (by decide) (pc' := 41) rfl ?_
    refine W.iinc #[.val (.ref t), .val (.int (0 : Int32)), .val (.ref tu), .val (.int (0 : Int32)), .val (.int (0 : Int32)), .val (.int (1 : Int32))] (1 : Int32) (1 : Int32) d22_41 (pc' := 44) rfl rfl rfl (by decide) rfl ?_
    refine W.goto d22_44 (pc' := 11) (by decide) rfl ?_
    refine W.iload d22_11 (pc' := 13) rfl rfl ?_
    refine W.aloadN d22_13 (pc' := 14) rfl rfl rfl ?_
    refine W.getF 0 4 d22_14 (host := "") (Or.inl (wd hw 58 rfl)) Via.refl rfl rfl (pc' := 17) rfl ?_
    refine W.icmpY d22_17 (by decide) (by decide) (pc' := 47) rfl ?_
    refine W.iconst (1 : Int32) d22_47 (pc' := 48) rfl rfl ?_
    exact W.retN (t := .boolean) 1 d22_48 rfl (by simp) rfl (by decide) (by decide) ⟨by simp [h1], rfl⟩
  · refine W.icmpN d22_36 (XT.ii_eq_f h1) (pc' := 39) rfl ?_
    refine W.iconst (0 : Int32) d22_39 (pc' := 40) rfl rfl ?_
    exact W.retN (t := .boolean) 0 d22_40 rfl (by simp) rfl (by decide) (by decide) ⟨by simp [h1], rfl⟩
theorem pn_mItI : plainFor (⟨"java/util/ArrayList$Itr", "<init>", "(Ljava/util/ArrayList;)V"⟩ : MethodName) = true := by first | (refine plainFor_of_name ?_; simp [plainName, overriddenIn]; done) | (refine plainFor_of_name ?_; decide +kernel) | decide +kernel
set_option maxRecDepth 65536 in
set_option maxHeartbeats 40000000 in
theorem mItI (l : Launch) (Z : State) (n0 : Nat) (a0 : Array Value) (hw : ∀ d ∈ tables_1, d.before a0 Z = true) (F : Asn) (dv : Value) (hdr : dv.isRef = true) (it il : Addr) : Sp l Z n0 (⟨"java/util/ArrayList$Itr", "<init>", "(Ljava/util/ArrayList;)V"⟩ : MethodName) jdk_49_method_1_code 2 none ({ frames := 1, cells := 0, slots := 0, locals := 12 } : Room) [(.ref it), (.ref il)] ((it, (ShIT Z .null (.int (0 : Int32)) (.int (0 : Int32)) (.int (0 : Int32)))) :: (il, (ShAL Z (.int (0 : Int32)) dv (.int (0 : Int32)))) :: F) (Ret none ((it, (ShIT Z (.ref il) (.int (-1 : Int32)) (.int (0 : Int32)) (.int (0 : Int32)))) :: (il, (ShAL Z (.int (0 : Int32)) dv (.int (0 : Int32)))) :: F)) := by
  refine Sp.of (ls := #[.val (.ref it), .val (.ref il)]) pn_mItI (fun m => by first | (simp [entryFrame, mkF, argsToLocals, Value.category]; done) | rfl) ?_
  show W _ _ _ _ _ _ 0 0 ((it, (ShIT Z .null (.int (0 : Int32)) (.int (0 : Int32)) (.int (0 : Int32)))) :: (il, (ShAL Z (.int (0 : Int32)) dv (.int (0 : Int32)))) :: F) 0 #[.val (.ref it), .val (.ref il)] []
  refine W.aloadN d14_0 (pc' := 1) rfl rfl rfl ?_
  refine W.aloadN d14_1 (pc' := 2) rfl rfl rfl ?_
  refine W.putF ((it, (ShIT Z (.ref il) (.int (0 : Int32)) (.int (0 : Int32)) (.int (0 : Int32)))) :: (il, (ShAL Z (.int (0 : Int32)) dv (.int (0 : Int32)))) :: F) 0 0 d14_2 (host := "") (Or.inl (wd hw 117 rfl)) Via.refl (Or.inr ⟨(wd hw 118 rfl), rfl, rfl⟩) (wd hw 111 rfl) (ty := (.object "java/util/ArrayList")) (by decide) rfl rfl rfl rfl rfl (pc' := 5) rfl ?_
  refine W.aloadN d14_5 (pc' := 6) rfl rfl rfl ?_
  refine W.initO d14_6 (wd hw 119 rfl) (wd hw 7 rfl) (wd hw 8 rfl) rfl (Nat.le_of_ble_eq_true rfl) (Nat.le_of_ble_eq_true rfl) (pc' := 9) rfl ?_
  refine W.aloadN d14_9 (pc' := 10) rfl rfl rfl ?_
  refine W.iconst (-1 : Int32) d14_10 (pc' := 11) rfl rfl ?_
  refine W.putF ((it, (ShIT Z (.ref il) (.int (-1 : Int32)) (.int (0 : Int32)) (.int (0 : Int32)))) :: (il, (ShAL Z (.int (0 : Int32)) dv (.int (0 : Int32)))) :: F) 0 1 d14_11 (host := "") (Or.inl (wd hw 120 rfl)) Via.refl (Or.inl (wd hw 121 rfl)) (wd hw 111 rfl) (ty := .int) (by decide) rfl rfl rfl rfl rfl (pc' := 14) rfl ?_
  refine W.aloadN d14_14 (pc' := 15) rfl rfl rfl ?_
  refine W.aloadN d14_15 (pc' := 16) rfl rfl rfl ?_
  refine W.getF 0 0 d14_16 (host := "") (Or.inl (wd hw 117 rfl)) Via.refl rfl rfl (pc' := 19) rfl ?_
  refine W.getF 1 0 d14_19 (host := "") (Or.inl (wd hw 122 rfl)) (Via.of (wd hw 123 rfl)) rfl rfl (pc' := 22) rfl ?_
  refine W.putF ((it, (ShIT Z (.ref il) (.int (-1 : Int32)) (.int (0 : Int32)) (.int (0 : Int32)))) :: (il, (ShAL Z (.int (0 : Int32)) dv (.int (0 : Int32)))) :: F) 0 2 d14_22 (host := "") (Or.inl (wd hw 124 rfl)) Via.refl (Or.inl (wd hw 125 rfl)) (wd hw 111 rfl) (ty := .int) (by decide) rfl rfl rfl rfl rfl (pc' := 25) rfl ?_
  exact W.retV d14_25 rfl (by decide) (by decide) ⟨rfl, rfl⟩
theorem pn_mIter : plainFor (⟨"java/util/ArrayList", "iterator", "()Ljava/util/Iterator;"⟩ : MethodName) = true := by first | (refine plainFor_of_name ?_; simp [plainName, overriddenIn]; done) | (refine plainFor_of_name ?_; decide +kernel) | decide +kernel
set_option maxRecDepth 65536 in
set_option maxHeartbeats 40000000 in
theorem mIter (l : Launch) (Z : State) (n0 : Nat) (a0 : Array Value) (hw : ∀ d ∈ tables_1, d.before a0 Z = true) (F : Asn) (dv : Value) (hdr : dv.isRef = true) (il : Addr) : Sp l Z n0 (⟨"java/util/ArrayList", "iterator", "()Ljava/util/Iterator;"⟩ : MethodName) jdk_38_method_55_code 1 (some (.object "java/util/Iterator")) ({ frames := 2, cells := 1, slots := 4, locals := 26 } : Room) [(.ref il)] ((il, (ShAL Z (.int (0 : Int32)) dv (.int (0 : Int32)))) :: F) (fun v σ' => ∃ it, v = some (.ref it) ∧ σ' = (it, (ShIT Z (.ref il) (.int (-1 : Int32)) (.int (0 : Int32)) (.int (0 : Int32)))) :: (il, (ShAL Z (.int (0 : Int32)) dv (.int (0 : Int32)))) :: F) := by
  refine Sp.of (ls := #[.val (.ref il)]) pn_mIter (fun m => by first | (simp [entryFrame, mkF, argsToLocals, Value.category]; done) | rfl) ?_
  show W _ _ _ _ _ _ 0 0 ((il, (ShAL Z (.int (0 : Int32)) dv (.int (0 : Int32)))) :: F) 0 #[.val (.ref il)] []
  refine W.new [("java/util/ArrayList$Itr", "this$0", "Ljava/util/ArrayList;", .null), ("java/util/ArrayList$Itr", "lastRet", "I", (.int (0 : Int32))), ("java/util/ArrayList$Itr", "expectedModCount", "I", (.int (0 : Int32))), ("java/util/ArrayList$Itr", "cursor", "I", (.int (0 : Int32)))] d13_0 (wd hw 110 rfl) (wd hw 111 rfl) (wd hw 112 rfl) ⟨⟨Or.inr (wd hw 118 rfl), (.object "java/util/ArrayList"), by decide, rfl⟩, ⟨Or.inl (wd hw 121 rfl), .int, by decide, rfl⟩, ⟨Or.inl (wd hw 125 rfl), .int, by decide, rfl⟩, ⟨Or.inl (wd hw 136 rfl), .int, by decide, rfl⟩, trivial⟩ (by decide) (by decide) (by decide) (pc' := 3) rfl ?_
  intro it
  show W _ _ _ _ _ _ 1 4 ((it, (ShIT Z .null (.int (0 : Int32)) (.int (0 : Int32)) (.int (0 : Int32)))) :: (il, (ShAL Z (.int (0 : Int32)) dv (.int (0 : Int32)))) :: F) 3 #[.val (.ref il)] [(.ref it)]
  refine W.dup d13_3 (pc' := 4) rfl rfl ?_
  refine W.aloadN d13_4 (pc' := 5) rfl rfl rfl ?_
  refine W.callI (mItI l Z n0 a0 hw F dv hdr it il) d13_5 rfl (wd hw 113 rfl) (wd hw 114 rfl) (wd hw 112 rfl) (wd hw 116 rfl) (by decide) pd3 rfl rfl (Nat.le_of_ble_eq_true rfl) (Nat.le_of_ble_eq_true rfl) (Nat.le_of_ble_eq_true rfl) (Nat.le_of_ble_eq_true rfl) rfl (pc' := 8) rfl ?_
  intro v9 s9 q9
  rw [q9.1, q9.2]
  clear q9 v9 s9
  show W _ _ _ _ _ _ 1 4 ((it, (ShIT Z (.ref il) (.int (-1 : Int32)) (.int (0 : Int32)) (.int (0 : Int32)))) :: (il, (ShAL Z (.int (0 : Int32)) dv (.int (0 : Int32)))) :: F) 8 #[.val (.ref il)] [(.ref it)]
  exact W.retA (t := (.object "java/util/Iterator")) d13_8 rfl rfl rfl rfl (by decide) (by decide) ⟨it, rfl, rfl⟩
theorem pn_mHas : plainFor (⟨"java/util/ArrayList$Itr", "hasNext", "()Z"⟩ : MethodName) = true := by first | (refine plainFor_of_name ?_; simp [plainName, overriddenIn]; done) | (refine plainFor_of_name ?_; decide +kernel) | decide +kernel
set_option maxRecDepth 65536 in
set_option maxHeartbeats 40000000 in
theorem mHas (l : Launch) (Z : State) (n0 : Nat) (a0 : Array Value) (hw : ∀ d ∈ tables_1, d.before a0 Z = true) (F : Asn) (dv : Value) (hdr : dv.isRef = true) (it il : Addr) : Sp l Z n0 (⟨"java/util/ArrayList$Itr", "hasNext", "()Z"⟩ : MethodName) jdk_49_method_2_code 1 (some .boolean) ({ frames := 0, cells := 0, slots := 0, locals := 0 } : Room) [(.ref it)] ((it, (ShIT Z (.ref il) (.int (-1 : Int32)) (.int (0 : Int32)) (.int (0 : Int32)))) :: (il, (ShAL Z (.int (0 : Int32)) dv (.int (0 : Int32)))) :: F) (Ret (some (.int 0)) ((it, (ShIT Z (.ref il) (.int (-1 : Int32)) (.int (0 : Int32)) (.int (0 : Int32)))) :: (il, (ShAL Z (.int (0 : Int32)) dv (.int (0 : Int32)))) :: F)) := by
  refine Sp.of (ls := #[.val (.ref it)]) pn_mHas (fun m => by first | (simp [entryFrame, mkF, argsToLocals, Value.category]; done) | rfl) ?_
  show W _ _ _ _ _ _ 0 0 ((it, (ShIT Z (.ref il) (.int (-1 : Int32)) (.int (0 : Int32)) (.int (0 : Int32)))) :: (il, (ShAL Z (.int (0 : Int32)) dv (.int (0 : Int32)))) :: F) 0 #[.val (.ref it)] []
  refine W.aloadN d15_0 (pc' := 1) rfl rfl rfl ?_
  refine W.getF 0 3 d15_1 (host := "") (Or.inl (wd hw 135 rfl)) Via.refl rfl rfl (pc' := 4) rfl ?_
  refine W.aloadN d15_4 (pc' := 5) rfl rfl rfl ?_
  refine W.getF 0 0 d15_5 (host := "") (Or.inl (wd hw 117 rfl)) Via.refl rfl rfl (pc' := 8) rfl ?_
  refine W.getF 1 2 d15_8 (host := "java/util/ArrayList") (Or.inr (wd hw 137 rfl)) Via.refl rfl rfl (pc' := 11) rfl ?_
  refine W.icmpY d15_11 (by decide) (by decide) (pc' := 18) rfl ?_
  refine W.iconst (0 : Int32) d15_18 (pc' := 19) rfl rfl ?_
  exact W.retN (t := .boolean) 0 d15_19 rfl (by simp) rfl (by decide) (by decide) ⟨rfl, rfl⟩
theorem pn_mTS : plainFor (⟨"com/example/mendb/mendb/TupleStore", "<init>", "(I)V"⟩ : MethodName) = true := by first | (refine plainFor_of_name ?_; simp [plainName, overriddenIn]; done) | (refine plainFor_of_name ?_; decide +kernel) | decide +kernel
set_option maxRecDepth 65536 in
set_option maxHeartbeats 40000000 in
theorem mTS (l : Launch) (Z : State) (n0 : Nat) (a0 : Array Value) (hw : ∀ d ∈ tables_1, d.before a0 Z = true) (dv : Value) (hdr : dv.isRef = true) (hdv : Sta Z Z.heap "java/util/ArrayList" "DEFAULTCAPACITY_EMPTY_ELEMENTDATA" "[Ljava/lang/Object;" dv) (F : Asn) (t : Addr) : Sp l Z n0 (⟨"com/example/mendb/mendb/TupleStore", "<init>", "(I)V"⟩ : MethodName) prog_126_method_1_code 2 none ({ frames := 4, cells := 7, slots := 107, locals := 50 } : Room) [(.ref t), (.int (1 : Int32))] ((t, (ShTS Z .null .null .null .null (.int (0 : Int32)) .null .null .null (.int (0 : Int32)) (.int (0 : Int32)) .null (.int (0 : Int32)) (.int (0 : Int32)) (.int (0 : Int32)))) :: F) (fun v σ' => v = none ∧ ∃ sl ix il rv va le ss : Addr, σ' = ((t, (ShTS Z (.ref sl) (.ref ix) (.ref il) (.ref rv) (.int (1 : Int32)) (.ref va) (.ref le) (.ref ss) (.int (0 : Int32)) (.int (0 : Int32)) .null (.int (0 : Int32)) (.int (0 : Int32)) (.int (0 : Int32)))) :: (sl, (IA Z .int (List.replicate 32 0))) :: (rv, (IA Z .int (List.replicate 16 0))) :: (va, (IA Z .int (List.replicate 16 0))) :: (le, (LA Z (List.replicate 16 0))) :: (ss, (IA Z .byte (List.replicate 16 0))) :: (il, (ShAL Z (.int (0 : Int32)) dv (.int (0 : Int32)))) :: F)) := by
  refine Sp.of (ls := #[.val (.ref t), .val (.int (1 : Int32))]) pn_mTS (fun m => by first | (simp [entryFrame, mkF, argsToLocals, Value.category]; done) | rfl) ?_
  show W _ _ _ _ _ _ 0 0 ((t, (ShTS Z .null .null .null .null (.int (0 : Int32)) .null .null .null (.int (0 : Int32)) (.int (0 : Int32)) .null (.int (0 : Int32)) (.int (0 : Int32)) (.int (0 : Int32)))) :: F) 0 #[.val (.ref t), .val (.int (1 : Int32))] []
  refine W.aloadN d1_0 (pc' := 1) rfl rfl rfl ?_
  refine W.initO d1_1 (wd hw 6 rfl) (wd hw 7 rfl) (wd hw 8 rfl) rfl (Nat.le_of_ble_eq_true rfl) (Nat.le_of_ble_eq_true rfl) (pc' := 4) rfl ?_
  refine W.aloadN d1_4 (pc' := 5) rfl rfl rfl ?_
  refine W.bipush (32 : Int32) d1_5 (pc' := 7) rfl rfl ?_
  refine W.newI 32 32 d1_7 (wd hw 9 rfl) rfl (by decide) rfl (by decide) (by decide) (by decide) (by decide) (pc' := 9) rfl ?_
  intro sl
  show W _ _ _ _ _ _ 1 32 ((sl, (IA Z .int (List.replicate 32 0))) :: (t, (ShTS Z .null .null .null .null (.int (0 : Int32)) .null .null .null (.int (0 : Int32)) (.int (0 : Int32)) .null (.int (0 : Int32)) (.int (0 : Int32)) (.int (0 : Int32)))) :: F) 9 #[.val (.ref t), .val (.int (1 : Int32))] [(.ref sl), (.ref t)]
  refine W.putF ((sl, (IA Z .int (List.replicate 32 0))) :: (t, (ShTS Z (.ref sl) .null .null .null (.int (0 : Int32)) .null .null .null (.int (0 : Int32)) (.int (0 : Int32)) .null (.int (0 : Int32)) (.int (0 : Int32)) (.int (0 : Int32)))) :: F) 1 0 d1_9 (host := "") (Or.inl (wd hw 10 rfl)) Via.refl (Or.inl (wd hw 11 rfl)) (wd hw 1 rfl) (ty := (.array .int)) (by decide) rfl rfl rfl rfl rfl (pc' := 12) rfl ?_
  refine W.aloadN d1_12 (pc' := 13) rfl rfl rfl ?_
  refine W.new [("java/util/HashMap", "loadFactor", "F", (.float (0 : UInt32)))] d1_13 (wd hw 12 rfl) (wd hw 13 rfl) (wd hw 14 rfl) ⟨⟨Or.inr (wd hw 27 rfl), .float, by decide, rfl⟩, trivial⟩ (by decide) (by decide) (by decide) (pc' := 16) rfl ?_
  intro ix
  show W _ _ _ _ _ _ 2 40 ((ix, (ShHM Z (.float (0 : UInt32)))) :: (sl, (IA Z .int (List.replicate 32 0))) :: (t, (ShTS Z (.ref sl) .null .null .null (.int (0 : Int32)) .null .null .null (.int (0 : Int32)) (.int (0 : Int32)) .null (.int (0 : Int32)) (.int (0 : Int32)) (.int (0 : Int32)))) :: F) 16 #[.val (.ref t), .val (.int (1 : Int32))] [(.ref ix), (.ref t)]
  refine W.dup d1_16 (pc' := 17) rfl rfl ?_
  refine W.callI (mHM l Z n0 a0 hw _ ix) d1_17 rfl (wd hw 15 rfl) (wd hw 16 rfl) (wd hw 14 rfl) (wd hw 17 rfl) (by decide) pd0 rfl rfl (Nat.le_of_ble_eq_true rfl) (Nat.le_of_ble_eq_true rfl) (Nat.le_of_ble_eq_true rfl) (Nat.le_of_ble_eq_true rfl) rfl (pc' := 20) rfl ?_
  intro v9 s9 q9
  rw [q9.1, q9.2]
  clear q9 v9 s9
  show W _ _ _ _ _ _ 2 40 ((ix, (ShHM Z (.float (1061158912 : UInt32)))) :: (sl, (IA Z .int (List.replicate 32 0))) :: (t, (ShTS Z (.ref sl) .null .null .null (.int (0 : Int32)) .null .null .null (.int (0 : Int32)) (.int (0 : Int32)) .null (.int (0 : Int32)) (.int (0 : Int32)) (.int (0 : Int32)))) :: F) 20 #[.val (.ref t), .val (.int (1 : Int32))] [(.ref ix), (.ref t)]
  refine W.putF ((ix, (ShHM Z (.float (1061158912 : UInt32)))) :: (sl, (IA Z .int (List.replicate 32 0))) :: (t, (ShTS Z (.ref sl) (.ref ix) .null .null (.int (0 : Int32)) .null .null .null (.int (0 : Int32)) (.int (0 : Int32)) .null (.int (0 : Int32)) (.int (0 : Int32)) (.int (0 : Int32)))) :: F) 2 1 d1_20 (host := "") (Or.inl (wd hw 28 rfl)) Via.refl (Or.inr ⟨(wd hw 29 rfl), rfl, rfl⟩) (wd hw 1 rfl) (ty := (.object "java/util/Map")) (by decide) rfl rfl rfl rfl rfl (pc' := 23) rfl ?_
  refine W.aloadN d1_23 (pc' := 24) rfl rfl rfl ?_
  refine W.new [("java/util/AbstractList", "modCount", "I", (.int (0 : Int32))), ("java/util/ArrayList", "elementData", "[Ljava/lang/Object;", .null), ("java/util/ArrayList", "size", "I", (.int (0 : Int32)))] d1_24 (wd hw 30 rfl) (wd hw 31 rfl) (wd hw 32 rfl) ⟨⟨Or.inl (wd hw 50 rfl), .int, by decide, rfl⟩, ⟨Or.inl (wd hw 53 rfl), (.array (.object "java/lang/Object")), by decide, rfl⟩, ⟨Or.inl (wd hw 138 rfl), .int, by decide, rfl⟩, trivial⟩ (by decide) (by decide) (by decide) (pc' := 27) rfl ?_
  intro il
  show W _ _ _ _ _ _ 3 43 ((il, (ShAL Z (.int (0 : Int32)) .null (.int (0 : Int32)))) :: (ix, (ShHM Z (.float (1061158912 : UInt32)))) :: (sl, (IA Z .int (List.replicate 32 0))) :: (t, (ShTS Z (.ref sl) (.ref ix) .null .null (.int (0 : Int32)) .null .null .null (.int (0 : Int32)) (.int (0 : Int32)) .null (.int (0 : Int32)) (.int (0 : Int32)) (.int (0 : Int32)))) :: F) 27 #[.val (.ref t), .val (.int (1 : Int32))] [(.ref il), (.ref t)]
  refine W.dup d1_27 (pc' := 28) rfl rfl ?_
  refine W.callI (mAL l Z n0 a0 hw dv hdr hdv _ il) d1_28 rfl (wd hw 33 rfl) (wd hw 34 rfl) (wd hw 32 rfl) (wd hw 35 rfl) (by decide) pd0 rfl rfl (Nat.le_of_ble_eq_true rfl) (Nat.le_of_ble_eq_true rfl) (Nat.le_of_ble_eq_true rfl) (Nat.le_of_ble_eq_true rfl) rfl (pc' := 31) rfl ?_
  intro v9 s9 q9
  rw [q9.1, q9.2]
  clear q9 v9 s9
  show W _ _ _ _ _ _ 3 43 ((il, (ShAL Z (.int (0 : Int32)) dv (.int (0 : Int32)))) :: (ix, (ShHM Z (.float (1061158912 : UInt32)))) :: (sl, (IA Z .int (List.replicate 32 0))) :: (t, (ShTS Z (.ref sl) (.ref ix) .null .null (.int (0 : Int32)) .null .null .null (.int (0 : Int32)) (.int (0 : Int32)) .null (.int (0 : Int32)) (.int (0 : Int32)) (.int (0 : Int32)))) :: F) 31 #[.val (.ref t), .val (.int (1 : Int32))] [(.ref il), (.ref t)]
  refine W.putF ((il, (ShAL Z (.int (0 : Int32)) dv (.int (0 : Int32)))) :: (ix, (ShHM Z (.float (1061158912 : UInt32)))) :: (sl, (IA Z .int (List.replicate 32 0))) :: (t, (ShTS Z (.ref sl) (.ref ix) (.ref il) .null (.int (0 : Int32)) .null .null .null (.int (0 : Int32)) (.int (0 : Int32)) .null (.int (0 : Int32)) (.int (0 : Int32)) (.int (0 : Int32)))) :: F) 3 2 d1_31 (host := "") (Or.inl (wd hw 54 rfl)) Via.refl (Or.inr ⟨(wd hw 55 rfl), rfl, rfl⟩) (wd hw 1 rfl) (ty := (.object "java/util/List")) (by decide) rfl rfl rfl rfl rfl (pc' := 34) rfl ?_
  refine W.aloadN d1_34 (pc' := 35) rfl rfl rfl ?_
  refine W.bipush (16 : Int32) d1_35 (pc' := 37) rfl rfl ?_
  refine W.newI 16 16 d1_37 (wd hw 9 rfl) rfl (by decide) rfl (by decide) (by decide) (by decide) (by decide) (pc' := 39) rfl ?_
  intro rv
  show W _ _ _ _ _ _ 4 59 ((rv, (IA Z .int (List.replicate 16 0))) :: (il, (ShAL Z (.int (0 : Int32)) dv (.int (0 : Int32)))) :: (ix, (ShHM Z (.float (1061158912 : UInt32)))) :: (sl, (IA Z .int (List.replicate 32 0))) :: (t, (ShTS Z (.ref sl) (.ref ix) (.ref il) .null (.int (0 : Int32)) .null .null .null (.int (0 : Int32)) (.int (0 : Int32)) .null (.int (0 : Int32)) (.int (0 : Int32)) (.int (0 : Int32)))) :: F) 39 #[.val (.ref t), .val (.int (1 : Int32))] [(.ref rv), (.ref t)]
  refine W.putF ((rv, (IA Z .int (List.replicate 16 0))) :: (il, (ShAL Z (.int (0 : Int32)) dv (.int (0 : Int32)))) :: (ix, (ShHM Z (.float (1061158912 : UInt32)))) :: (sl, (IA Z .int (List.replicate 32 0))) :: (t, (ShTS Z (.ref sl) (.ref ix) (.ref il) (.ref rv) (.int (0 : Int32)) .null .null .null (.int (0 : Int32)) (.int (0 : Int32)) .null (.int (0 : Int32)) (.int (0 : Int32)) (.int (0 : Int32)))) :: F) 4 3 d1_39 (host := "") (Or.inl (wd hw 56 rfl)) Via.refl (Or.inl (wd hw 57 rfl)) (wd hw 1 rfl) (ty := (.array .int)) (by decide) rfl rfl rfl rfl rfl (pc' := 42) rfl ?_
  refine W.aloadN d1_42 (pc' := 43) rfl rfl rfl ?_
  refine W.iloadN d1_43 (pc' := 44) rfl rfl ?_
  refine W.putF ((rv, (IA Z .int (List.replicate 16 0))) :: (il, (ShAL Z (.int (0 : Int32)) dv (.int (0 : Int32)))) :: (ix, (ShHM Z (.float (1061158912 : UInt32)))) :: (sl, (IA Z .int (List.replicate 32 0))) :: (t, (ShTS Z (.ref sl) (.ref ix) (.ref il) (.ref rv) (.int (1 : Int32)) .null .null .null (.int (0 : Int32)) (.int (0 : Int32)) .null (.int (0 : Int32)) (.int (0 : Int32)) (.int (0 : Int32)))) :: F) 4 4 d1_44 (host := "") (Or.inl (wd hw 58 rfl)) Via.refl (Or.inr ⟨(wd hw 59 rfl), rfl, rfl⟩) (wd hw 1 rfl) (ty := .int) (by decide) rfl rfl rfl rfl rfl (pc' := 47) rfl ?_
  refine W.aloadN d1_47 (pc' := 48) rfl rfl rfl ?_
  refine W.bipush (16 : Int32) d1_48 (pc' := 50) rfl rfl ?_
  refine W.iloadN d1_50 (pc' := 51) rfl rfl ?_
  refine W.imul d1_51 (pc' := 52) rfl ?_
  refine W.topI (16 : Int32) (by decide) ?_
  refine W.newI 16 16 d1_52 (wd hw 9 rfl) rfl (by decide) rfl (by decide) (by decide) (by decide) (by decide) (pc' := 54) rfl ?_
  intro va
  show W _ _ _ _ _ _ 5 75 ((va, (IA Z .int (List.replicate 16 0))) :: (rv, (IA Z .int (List.replicate 16 0))) :: (il, (ShAL Z (.int (0 : Int32)) dv (.int (0 : Int32)))) :: (ix, (ShHM Z (.float (1061158912 : UInt32)))) :: (sl, (IA Z .int (List.replicate 32 0))) :: (t, (ShTS Z (.ref sl) (.ref ix) (.ref il) (.ref rv) (.int (1 : Int32)) .null .null .null (.int (0 : Int32)) (.int (0 : Int32)) .null (.int (0 : Int32)) (.int (0 : Int32)) (.int (0 : Int32)))) :: F) 54 #[.val (.ref t), .val (.int (1 : Int32))] [(.ref va), (.ref t)]
  refine W.putF ((va, (IA Z .int (List.replicate 16 0))) :: (rv, (IA Z .int (List.replicate 16 0))) :: (il, (ShAL Z (.int (0 : Int32)) dv (.int (0 : Int32)))) :: (ix, (ShHM Z (.float (1061158912 : UInt32)))) :: (sl, (IA Z .int (List.replicate 32 0))) :: (t, (ShTS Z (.ref sl) (.ref ix) (.ref il) (.ref rv) (.int (1 : Int32)) (.ref va) .null .null (.int (0 : Int32)) (.int (0 : Int32)) .null (.int (0 : Int32)) (.int (0 : Int32)) (.int (0 : Int32)))) :: F) 5 5 d1_54 (host := "") (Or.inl (wd hw 60 rfl)) Via.refl (Or.inl (wd hw 61 rfl)) (wd hw 1 rfl) (ty := (.array .int)) (by decide) rfl rfl rfl rfl rfl (pc' := 57) rfl ?_
  refine W.aloadN d1_57 (pc' := 58) rfl rfl rfl ?_
  refine W.bipush (16 : Int32) d1_58 (pc' := 60) rfl rfl ?_
  refine W.newJ 16 16 d1_60 (wd hw 62 rfl) (by decide) rfl (by decide) (by decide) (by decide) (by decide) (pc' := 62) rfl ?_
  intro le
  show W _ _ _ _ _ _ 6 91 ((le, (LA Z (List.replicate 16 0))) :: (va, (IA Z .int (List.replicate 16 0))) :: (rv, (IA Z .int (List.replicate 16 0))) :: (il, (ShAL Z (.int (0 : Int32)) dv (.int (0 : Int32)))) :: (ix, (ShHM Z (.float (1061158912 : UInt32)))) :: (sl, (IA Z .int (List.replicate 32 0))) :: (t, (ShTS Z (.ref sl) (.ref ix) (.ref il) (.ref rv) (.int (1 : Int32)) (.ref va) .null .null (.int (0 : Int32)) (.int (0 : Int32)) .null (.int (0 : Int32)) (.int (0 : Int32)) (.int (0 : Int32)))) :: F) 62 #[.val (.ref t), .val (.int (1 : Int32))] [(.ref le), (.ref t)]
  refine W.putF ((le, (LA Z (List.replicate 16 0))) :: (va, (IA Z .int (List.replicate 16 0))) :: (rv, (IA Z .int (List.replicate 16 0))) :: (il, (ShAL Z (.int (0 : Int32)) dv (.int (0 : Int32)))) :: (ix, (ShHM Z (.float (1061158912 : UInt32)))) :: (sl, (IA Z .int (List.replicate 32 0))) :: (t, (ShTS Z (.ref sl) (.ref ix) (.ref il) (.ref rv) (.int (1 : Int32)) (.ref va) (.ref le) .null (.int (0 : Int32)) (.int (0 : Int32)) .null (.int (0 : Int32)) (.int (0 : Int32)) (.int (0 : Int32)))) :: F) 6 6 d1_62 (host := "") (Or.inl (wd hw 63 rfl)) Via.refl (Or.inl (wd hw 64 rfl)) (wd hw 1 rfl) (ty := (.array .long)) (by decide) rfl rfl rfl rfl rfl (pc' := 65) rfl ?_
  refine W.aloadN d1_65 (pc' := 66) rfl rfl rfl ?_
  refine W.bipush (16 : Int32) d1_66 (pc' := 68) rfl rfl ?_
  refine W.newI 16 16 d1_68 (wd hw 65 rfl) rfl (by decide) rfl (by decide) (by decide) (by decide) (by decide) (pc' := 70) rfl ?_
  intro ss
  show W _ _ _ _ _ _ 7 107 ((ss, (IA Z .byte (List.replicate 16 0))) :: (le, (LA Z (List.replicate 16 0))) :: (va, (IA Z .int (List.replicate 16 0))) :: (rv, (IA Z .int (List.replicate 16 0))) :: (il, (ShAL Z (.int (0 : Int32)) dv (.int (0 : Int32)))) :: (ix, (ShHM Z (.float (1061158912 : UInt32)))) :: (sl, (IA Z .int (List.replicate 32 0))) :: (t, (ShTS Z (.ref sl) (.ref ix) (.ref il) (.ref rv) (.int (1 : Int32)) (.ref va) (.ref le) .null (.int (0 : Int32)) (.int (0 : Int32)) .null (.int (0 : Int32)) (.int (0 : Int32)) (.int (0 : Int32)))) :: F) 70 #[.val (.ref t), .val (.int (1 : Int32))] [(.ref ss), (.ref t)]
  refine W.putF ((ss, (IA Z .byte (List.replicate 16 0))) :: (le, (LA Z (List.replicate 16 0))) :: (va, (IA Z .int (List.replicate 16 0))) :: (rv, (IA Z .int (List.replicate 16 0))) :: (il, (ShAL Z (.int (0 : Int32)) dv (.int (0 : Int32)))) :: (ix, (ShHM Z (.float (1061158912 : UInt32)))) :: (sl, (IA Z .int (List.replicate 32 0))) :: (t, (ShTS Z (.ref sl) (.ref ix) (.ref il) (.ref rv) (.int (1 : Int32)) (.ref va) (.ref le) (.ref ss) (.int (0 : Int32)) (.int (0 : Int32)) .null (.int (0 : Int32)) (.int (0 : Int32)) (.int (0 : Int32)))) :: F) 7 7 d1_70 (host := "") (Or.inl (wd hw 66 rfl)) Via.refl (Or.inl (wd hw 67 rfl)) (wd hw 1 rfl) (ty := (.array .byte)) (by decide) rfl rfl rfl rfl rfl (pc' := 73) rfl ?_
  refine W.drop ((ss, (IA Z .byte (List.replicate 16 0))) :: (le, (LA Z (List.replicate 16 0))) :: (va, (IA Z .int (List.replicate 16 0))) :: (rv, (IA Z .int (List.replicate 16 0))) :: (il, (ShAL Z (.int (0 : Int32)) dv (.int (0 : Int32)))) :: (sl, (IA Z .int (List.replicate 32 0))) :: (t, (ShTS Z (.ref sl) (.ref ix) (.ref il) (.ref rv) (.int (1 : Int32)) (.ref va) (.ref le) (.ref ss) (.int (0 : Int32)) (.int (0 : Int32)) .null (.int (0 : Int32)) (.int (0 : Int32)) (.int (0 : Int32)))) :: F) 5 rfl ?_
  refine W.pulls ((t, (ShTS Z (.ref sl) (.ref ix) (.ref il) (.ref rv) (.int (1 : Int32)) (.ref va) (.ref le) (.ref ss) (.int (0 : Int32)) (.int (0 : Int32)) .null (.int (0 : Int32)) (.int (0 : Int32)) (.int (0 : Int32)))) :: (sl, (IA Z .int (List.replicate 32 0))) :: (rv, (IA Z .int (List.replicate 16 0))) :: (va, (IA Z .int (List.replicate 16 0))) :: (le, (LA Z (List.replicate 16 0))) :: (ss, (IA Z .byte (List.replicate 16 0))) :: (il, (ShAL Z (.int (0 : Int32)) dv (.int (0 : Int32)))) :: F) [1, 2, 3, 5, 6] rfl ?_
  exact W.retV d1_73 rfl (by decide) (by decide) ⟨rfl, sl, ix, il, rv, va, le, ss, rfl⟩
set_option maxRecDepth 65536 in
set_option maxHeartbeats 40000000 in
theorem addT0 (l : Launch) (Z : State) (n0 : Nat) (a0 : Array Value) (hw : ∀ d ∈ tables_1, d.before a0 Z = true) (F : Asn) (dv : Value) (hdr : dv.isRef = true) (t sl ix il rv va le ss : Addr) (tu : Addr) (x : Int32) (xs : List Int32) (p : Nat) (hlx : xs.length = 32) (hp : p < 32) : W l Z n0 ("com/example/mendb/mendb/TupleStore", "add", prog_126_method_22_code, 9, (some .boolean)) ({ frames := 3, cells := 1, slots := 4, locals := 80 } : Room) (Ret (some (.int 1)) ((t, (ShTS Z (.ref sl) (.ref ix) (.ref il) (.ref rv) (.int (1 : Int32)) (.ref va) (.ref le) (.ref ss) (.int (1 : Int32)) (.int (1 : Int32)) .null (.int (0 : Int32)) (.int (0 : Int32)) (.int (0 : Int32)))) :: (sl, (IA Z .int (xs.set p 1))) :: (rv, (IA Z .int (List.replicate 16 0))) :: (va, (IA Z .int (x :: List.replicate 15 0))) :: (le, (LA Z ((0 : Int64) :: List.replicate 15 0))) :: (ss, (IA Z .byte (List.replicate 16 0))) :: (il, (ShAL Z (.int (0 : Int32)) dv (.int (0 : Int32)))) :: (tu, (IA Z .int [x])) :: F)) 0 0 ((t, (ShTS Z (.ref sl) (.ref ix) (.ref il) (.ref rv) (.int (1 : Int32)) (.ref va) (.ref le) (.ref ss) (.int (0 : Int32)) (.int (0 : Int32)) .null (.int (0 : Int32)) (.int (0 : Int32)) (.int (0 : Int32)))) :: (sl, (IA Z .int xs)) :: (rv, (IA Z .int (List.replicate 16 0))) :: (va, (IA Z .int (List.replicate 16 0))) :: (le, (LA Z (List.replicate 16 0))) :: (ss, (IA Z .byte (List.replicate 16 0))) :: (il, (ShAL Z (.int (0 : Int32)) dv (.int (0 : Int32)))) :: (tu, (IA Z .int [x])) :: F) 89 #[.val (.ref t), .val (.ref tu), .val (.long (0 : Int64)), .second, .val (.int (31 : Int32)), .val (.int (Int32.ofNat p)), .unset, .unset, .unset] [] := by
  refine W.aloadN d9_89 (pc' := 90) rfl rfl rfl ?_
  refine W.getF 0 9 d9_90 (host := "") (Or.inl (wd hw 93 rfl)) Via.refl rfl rfl (pc' := 93) rfl ?_
  refine W.aloadN d9_93 (pc' := 94) rfl rfl rfl ?_
  refine W.getF 0 7 d9_94 (host := "") (Or.inl (wd hw 66 rfl)) Via.refl rfl rfl (pc' := 97) rfl ?_
  refine W.len 5 (16 : Int32) d9_97 rfl rfl (pc' := 98) rfl ?_
  refine W.icmpY d9_98 (by decide) (by decide) (pc' := 180) rfl ?_
  refine W.aloadN d9_180 (pc' := 181) rfl rfl rfl ?_
  refine W.iconst (0 : Int32) d9_181 (pc' := 182) rfl rfl ?_
  refine W.aloadN d9_182 (pc' := 183) rfl rfl rfl ?_
  refine W.getF 0 5 d9_183 (host := "") (Or.inl (wd hw 60 rfl)) Via.refl rfl rfl (pc' := 186) rfl ?_
  refine W.aloadN d9_186 (pc' := 187) rfl rfl rfl ?_
  refine W.getF 0 9 d9_187 (host := "") (Or.inl (wd hw 93 rfl)) Via.refl rfl rfl (pc' := 190) rfl ?_
  refine W.aloadN d9_190 (pc' := 191) rfl rfl rfl ?_
  refine W.getF 0 4 d9_191 (host := "") (Or.inl (wd hw 58 rfl)) Via.refl rfl rfl (pc' := 194) rfl ?_
  refine W.imul d9_194 (pc' := 195) rfl ?_
  refine W.topI (0 : Int32) (by decide) ?_
  refine W.aloadN d9_195 (pc' := 196) rfl rfl rfl ?_
  refine W.getF 0 4 d9_196 (host := "") (Or.inl (wd hw 58 rfl)) Via.refl rfl rfl (pc' := 199) rfl ?_
  refine W.copy1 ((t, (ShTS Z (.ref sl) (.ref ix) (.ref il) (.ref rv) (.int (1 : Int32)) (.ref va) (.ref le) (.ref ss) (.int (0 : Int32)) (.int (0 : Int32)) .null (.int (0 : Int32)) (.int (0 : Int32)) (.int (0 : Int32)))) :: (sl, (IA Z .int xs)) :: (rv, (IA Z .int (List.replicate 16 0))) :: (va, (IA Z .int (x :: List.replicate 15 0))) :: (le, (LA Z (List.replicate 16 0))) :: (ss, (IA Z .byte (List.replicate 16 0))) :: (il, (ShAL Z (.int (0 : Int32)) dv (.int (0 : Int32)))) :: (tu, (IA Z .int [x])) :: F) 7 3 0 d9_199 (wd hw 95 rfl) (wd hw 98 rfl) (wd hw 96 rfl) (wd hw 97 rfl) rfl rfl rfl (by decide) rfl (Nat.le_of_ble_eq_true rfl) (Nat.le_of_ble_eq_true rfl) (Nat.le_of_ble_eq_true rfl) rfl rfl (Nat.le_of_ble_eq_true rfl) (Nat.le_of_ble_eq_true rfl) (pc' := 202) rfl ?_
  refine W.aloadN d9_202 (pc' := 203) rfl rfl rfl ?_
  refine W.getF 0 6 d9_203 (host := "") (Or.inl (wd hw 63 rfl)) Via.refl rfl rfl (pc' := 206) rfl ?_
  refine W.aloadN d9_206 (pc' := 207) rfl rfl rfl ?_
  refine W.getF 0 9 d9_207 (host := "") (Or.inl (wd hw 93 rfl)) Via.refl rfl rfl (pc' := 210) rfl ?_
  refine W.lloadN d9_210 (pc' := 211) rfl rfl ?_
  refine W.lastore ((t, (ShTS Z (.ref sl) (.ref ix) (.ref il) (.ref rv) (.int (1 : Int32)) (.ref va) (.ref le) (.ref ss) (.int (0 : Int32)) (.int (0 : Int32)) .null (.int (0 : Int32)) (.int (0 : Int32)) (.int (0 : Int32)))) :: (sl, (IA Z .int xs)) :: (rv, (IA Z .int (List.replicate 16 0))) :: (va, (IA Z .int (x :: List.replicate 15 0))) :: (le, (LA Z ((0 : Int64) :: List.replicate 15 0))) :: (ss, (IA Z .byte (List.replicate 16 0))) :: (il, (ShAL Z (.int (0 : Int32)) dv (.int (0 : Int32)))) :: (tu, (IA Z .int [x])) :: F) 4 0 d9_211 rfl (by decide) rfl (Nat.le_of_ble_eq_true rfl) rfl (pc' := 212) rfl ?_
  refine W.aloadN d9_212 (pc' := 213) rfl rfl rfl ?_
  refine W.getF 0 10 d9_213 (host := "") (Or.inl (wd hw 99 rfl)) Via.refl rfl rfl (pc' := 216) rfl ?_
  refine W.nullY d9_216  (by decide) (pc' := 229) rfl ?_
  refine W.aloadN d9_229 (pc' := 230) rfl rfl rfl ?_
  refine W.getF 0 7 d9_230 (host := "") (Or.inl (wd hw 66 rfl)) Via.refl rfl rfl (pc' := 233) rfl ?_
  refine W.aloadN d9_233 (pc' := 234) rfl rfl rfl ?_
  refine W.getF 0 9 d9_234 (host := "") (Or.inl (wd hw 93 rfl)) Via.refl rfl rfl (pc' := 237) rfl ?_
  refine W.iconst (0 : Int32) d9_237 (pc' := 238) rfl rfl ?_
  refine W.bastore ((t, (ShTS Z (.ref sl) (.ref ix) (.ref il) (.ref rv) (.int (1 : Int32)) (.ref va) (.ref le) (.ref ss) (.int (0 : Int32)) (.int (0 : Int32)) .null (.int (0 : Int32)) (.int (0 : Int32)) (.int (0 : Int32)))) :: (sl, (IA Z .int xs)) :: (rv, (IA Z .int (List.replicate 16 0))) :: (va, (IA Z .int (x :: List.replicate 15 0))) :: (le, (LA Z ((0 : Int64) :: List.replicate 15 0))) :: (ss, (IA Z .byte (List.replicate 16 0))) :: (il, (ShAL Z (.int (0 : Int32)) dv (.int (0 : Int32)))) :: (tu, (IA Z .int [x])) :: F) 5 0 d9_238 rfl (by decide) rfl (Nat.le_of_ble_eq_true rfl) rfl (pc' := 239) rfl ?_
  refine W.aloadN d9_239 (pc' := 240) rfl rfl rfl ?_
  refine W.getF 0 0 d9_240 (host := "") (Or.inl (wd hw 10 rfl)) Via.refl rfl rfl (pc' := 243) rfl ?_
  refine W.iload d9_243 (pc' := 245) rfl rfl ?_
  refine W.aloadN d9_245 (pc' := 246) rfl rfl rfl ?_
  refine W.getF 0 9 d9_246 (host := "") (Or.inl (wd hw 93 rfl)) Via.refl rfl rfl (pc' := 249) rfl ?_
  refine W.iconst (1 : Int32) d9_249 (pc' := 250) rfl rfl ?_
  refine W.iadd d9_250 (pc' := 251) rfl ?_
  refine W.topI (1 : Int32) (by decide) ?_
  refine W.iastore ((t, (ShTS Z (.ref sl) (.ref ix) (.ref il) (.ref rv) (.int (1 : Int32)) (.ref va) (.ref le) (.ref ss) (.int (0 : Int32)) (.int (0 : Int32)) .null (.int (0 : Int32)) (.int (0 : Int32)) (.int (0 : Int32)))) :: (sl, (IA Z .int (xs.set p 1))) :: (rv, (IA Z .int (List.replicate 16 0))) :: (va, (IA Z .int (x :: List.replicate 15 0))) :: (le, (LA Z ((0 : Int64) :: List.replicate 15 0))) :: (ss, (IA Z .byte (List.replicate 16 0))) :: (il, (ShAL Z (.int (0 : Int32)) dv (.int (0 : Int32)))) :: (tu, (IA Z .int [x])) :: F) 1 p d9_251 rfl (own_nn hp) (own_tn hp) (by rw [hlx]; exact hp) rfl (pc' := 252) rfl ?_
  refine W.aloadN d9_252 (pc' := 253) rfl rfl rfl ?_
  refine W.getF 0 9 d9_253 (host := "") (Or.inl (wd hw 93 rfl)) Via.refl rfl rfl (pc' := 256) rfl ?_
  refine W.istore #[.val (.ref t), .val (.ref tu), .val (.long (0 : Int64)), .second, .val (.int (31 : Int32)), .val (.int (Int32.ofNat p)), .val (.int (0 : Int32)), .unset, .unset] d9_256 (pc' := 258) rfl rfl ?_
  refine W.aloadN d9_258 (pc' := 259) rfl rfl rfl ?_
  refine W.dup d9_259 (pc' := 260) rfl rfl ?_
  refine W.getF 0 9 d9_260 (host := "") (Or.inl (wd hw 93 rfl)) Via.refl rfl rfl (pc' := 263) rfl ?_
  refine W.iconst (1 : Int32) d9_263 (pc' := 264) rfl rfl ?_
  refine W.iadd d9_264 (pc' := 265) rfl ?_
  refine W.topI (1 : Int32) (by decide) ?_
  refine W.putF ((t, (ShTS Z (.ref sl) (.ref ix) (.ref il) (.ref rv) (.int (1 : Int32)) (.ref va) (.ref le) (.ref ss) (.int (0 : Int32)) (.int (1 : Int32)) .null (.int (0 : Int32)) (.int (0 : Int32)) (.int (0 : Int32)))) :: (sl, (IA Z .int (xs.set p 1))) :: (rv, (IA Z .int (List.replicate 16 0))) :: (va, (IA Z .int (x :: List.replicate 15 0))) :: (le, (LA Z ((0 : Int64) :: List.replicate 15 0))) :: (ss, (IA Z .byte (List.replicate 16 0))) :: (il, (ShAL Z (.int (0 : Int32)) dv (.int (0 : Int32)))) :: (tu, (IA Z .int [x])) :: F) 0 9 d9_265 (host := "") (Or.inl (wd hw 93 rfl)) Via.refl (Or.inl (wd hw 94 rfl)) (wd hw 1 rfl) (ty := .int) (by decide) rfl rfl rfl rfl rfl (pc' := 268) rfl ?_
  refine W.aloadN d9_268 (pc' := 269) rfl rfl rfl ?_
  refine W.dup d9_269 (pc' := 270) rfl rfl ?_
  refine W.getF 0 8 d9_270 (host := "") (Or.inl (wd hw 78 rfl)) Via.refl rfl rfl (pc' := 273) rfl ?_
  refine W.iconst (1 : Int32) d9_273 (pc' := 274) rfl rfl ?_
  refine W.iadd d9_274 (pc' := 275) rfl ?_
  refine W.topI (1 : Int32) (by decide) ?_
  refine W.putF ((t, (ShTS Z (.ref sl) (.ref ix) (.ref il) (.ref rv) (.int (1 : Int32)) (.ref va) (.ref le) (.ref ss) (.int (1 : Int32)) (.int (1 : Int32)) .null (.int (0 : Int32)) (.int (0 : Int32)) (.int (0 : Int32)))) :: (sl, (IA Z .int (xs.set p 1))) :: (rv, (IA Z .int (List.replicate 16 0))) :: (va, (IA Z .int (x :: List.replicate 15 0))) :: (le, (LA Z ((0 : Int64) :: List.replicate 15 0))) :: (ss, (IA Z .byte (List.replicate 16 0))) :: (il, (ShAL Z (.int (0 : Int32)) dv (.int (0 : Int32)))) :: (tu, (IA Z .int [x])) :: F) 0 8 d9_275 (host := "") (Or.inl (wd hw 78 rfl)) Via.refl (Or.inl (wd hw 79 rfl)) (wd hw 1 rfl) (ty := .int) (by decide) rfl rfl rfl rfl rfl (pc' := 278) rfl ?_
  refine W.aloadN d9_278 (pc' := 279) rfl rfl rfl ?_
  refine W.getF 0 2 d9_279 (host := "") (Or.inl (wd hw 54 rfl)) Via.refl rfl rfl (pc' := 282) rfl ?_
  refine W.pull ((t, (ShTS Z (.ref sl) (.ref ix) (.ref il) (.ref rv) (.int (1 : Int32)) (.ref va) (.ref le) (.ref ss) (.int (1 : Int32)) (.int (1 : Int32)) .null (.int (0 : Int32)) (.int (0 : Int32)) (.int (0 : Int32)))) :: (sl, (IA Z .int (xs.set p 1))) :: (rv, (IA Z .int (List.replicate 16 0))) :: (va, (IA Z .int (x :: List.replicate 15 0))) :: (le, (LA Z ((0 : Int64) :: List.replicate 15 0))) :: (ss, (IA Z .byte (List.replicate 16 0))) :: (tu, (IA Z .int [x])) :: F) 6 rfl rfl ?_
  refine W.callF 0 rfl (mIter l Z n0 a0 hw ((t, (ShTS Z (.ref sl) (.ref ix) (.ref il) (.ref rv) (.int (1 : Int32)) (.ref va) (.ref le) (.ref ss) (.int (1 : Int32)) (.int (1 : Int32)) .null (.int (0 : Int32)) (.int (0 : Int32)) (.int (0 : Int32)))) :: (sl, (IA Z .int (xs.set p 1))) :: (rv, (IA Z .int (List.replicate 16 0))) :: (va, (IA Z .int (x :: List.replicate 15 0))) :: (le, (LA Z ((0 : Int64) :: List.replicate 15 0))) :: (ss, (IA Z .byte (List.replicate 16 0))) :: (tu, (IA Z .int [x])) :: F) dv hdr il) d9_282 (wd hw 101 rfl) (wd hw 102 rfl) (wd hw 103 rfl) (wd hw 104 rfl) (wd hw 105 rfl) (wd hw 106 rfl) (wd hw 107 rfl) (wd hw 108 rfl) (wd hw 32 rfl) (wd hw 109 rfl) (by decide) pd4 rfl rfl (Nat.le_of_ble_eq_true rfl) (Nat.le_of_ble_eq_true rfl) (Nat.le_of_ble_eq_true rfl) (Nat.le_of_ble_eq_true rfl) rfl (pc' := 287) rfl ?_
  rintro _ _ ⟨it, rfl, rfl⟩
  show W _ _ _ _ _ _ 1 4 ((it, (ShIT Z (.ref il) (.int (-1 : Int32)) (.int (0 : Int32)) (.int (0 : Int32)))) :: (il, (ShAL Z (.int (0 : Int32)) dv (.int (0 : Int32)))) :: (t, (ShTS Z (.ref sl) (.ref ix) (.ref il) (.ref rv) (.int (1 : Int32)) (.ref va) (.ref le) (.ref ss) (.int (1 : Int32)) (.int (1 : Int32)) .null (.int (0 : Int32)) (.int (0 : Int32)) (.int (0 : Int32)))) :: (sl, (IA Z .int (xs.set p 1))) :: (rv, (IA Z .int (List.replicate 16 0))) :: (va, (IA Z .int (x :: List.replicate 15 0))) :: (le, (LA Z ((0 : Int64) :: List.replicate 15 0))) :: (ss, (IA Z .byte (List.replicate 16 0))) :: (tu, (IA Z .int [x])) :: F) 287 #[.val (.ref t), .val (.ref tu), .val (.long (0 : Int64)), .second, .val (.int (31 : Int32)), .val (.int (Int32.ofNat p)), .val (.int (0 : Int32)), .unset, .unset] [(.ref it)]
  refine W.astore #[.val (.ref t), .val (.ref tu), .val (.long (0 : Int64)), .second, .val (.int (31 : Int32)), .val (.int (Int32.ofNat p)), .val (.int (0 : Int32)), .val (.ref it), .unset] d9_287 (pc' := 289) rfl rfl rfl ?_
  refine W.aload d9_289 (pc' := 291) rfl rfl rfl ?_
  refine W.callF 0 rfl (mHas l Z n0 a0 hw ((t, (ShTS Z (.ref sl) (.ref ix) (.ref il) (.ref rv) (.int (1 : Int32)) (.ref va) (.ref le) (.ref ss) (.int (1 : Int32)) (.int (1 : Int32)) .null (.int (0 : Int32)) (.int (0 : Int32)) (.int (0 : Int32)))) :: (sl, (IA Z .int (xs.set p 1))) :: (rv, (IA Z .int (List.replicate 16 0))) :: (va, (IA Z .int (x :: List.replicate 15 0))) :: (le, (LA Z ((0 : Int64) :: List.replicate 15 0))) :: (ss, (IA Z .byte (List.replicate 16 0))) :: (tu, (IA Z .int [x])) :: F) dv hdr it il) d9_291 (wd hw 126 rfl) (wd hw 127 rfl) (wd hw 128 rfl) (wd hw 129 rfl) (wd hw 130 rfl) (wd hw 131 rfl) (wd hw 132 rfl) (wd hw 133 rfl) (wd hw 112 rfl) (wd hw 134 rfl) (by decide) pd5 rfl rfl (Nat.le_of_ble_eq_true rfl) (Nat.le_of_ble_eq_true rfl) (Nat.le_of_ble_eq_true rfl) (Nat.le_of_ble_eq_true rfl) rfl (pc' := 296) rfl ?_
  intro v9 s9 q9
  rw [q9.1, q9.2]
  clear q9 v9 s9
  show W _ _ _ _ _ _ 1 4 ((it, (ShIT Z (.ref il) (.int (-1 : Int32)) (.int (0 : Int32)) (.int (0 : Int32)))) :: (il, (ShAL Z (.int (0 : Int32)) dv (.int (0 : Int32)))) :: (t, (ShTS Z (.ref sl) (.ref ix) (.ref il) (.ref rv) (.int (1 : Int32)) (.ref va) (.ref le) (.ref ss) (.int (1 : Int32)) (.int (1 : Int32)) .null (.int (0 : Int32)) (.int (0 : Int32)) (.int (0 : Int32)))) :: (sl, (IA Z .int (xs.set p 1))) :: (rv, (IA Z .int (List.replicate 16 0))) :: (va, (IA Z .int (x :: List.replicate 15 0))) :: (le, (LA Z ((0 : Int64) :: List.replicate 15 0))) :: (ss, (IA Z .byte (List.replicate 16 0))) :: (tu, (IA Z .int [x])) :: F) 296 #[.val (.ref t), .val (.ref tu), .val (.long (0 : Int64)), .second, .val (.int (31 : Int32)), .val (.int (Int32.ofNat p)), .val (.int (0 : Int32)), .val (.ref it), .unset] [(.int (0 : Int32))]
  refine W.ifY d9_296 (by decide) (by decide) (pc' := 321) rfl ?_
  refine W.iconst (1 : Int32) d9_321 (pc' := 322) rfl rfl ?_
  refine W.drop ((il, (ShAL Z (.int (0 : Int32)) dv (.int (0 : Int32)))) :: (t, (ShTS Z (.ref sl) (.ref ix) (.ref il) (.ref rv) (.int (1 : Int32)) (.ref va) (.ref le) (.ref ss) (.int (1 : Int32)) (.int (1 : Int32)) .null (.int (0 : Int32)) (.int (0 : Int32)) (.int (0 : Int32)))) :: (sl, (IA Z .int (xs.set p 1))) :: (rv, (IA Z .int (List.replicate 16 0))) :: (va, (IA Z .int (x :: List.replicate 15 0))) :: (le, (LA Z ((0 : Int64) :: List.replicate 15 0))) :: (ss, (IA Z .byte (List.replicate 16 0))) :: (tu, (IA Z .int [x])) :: F) 0 rfl ?_
  refine W.pulls ((t, (ShTS Z (.ref sl) (.ref ix) (.ref il) (.ref rv) (.int (1 : Int32)) (.ref va) (.ref le) (.ref ss) (.int (1 : Int32)) (.int (1 : Int32)) .null (.int (0 : Int32)) (.int (0 : Int32)) (.int (0 : Int32)))) :: (sl, (IA Z .int (xs.set p 1))) :: (rv, (IA Z .int (List.replicate 16 0))) :: (va, (IA Z .int (x :: List.replicate 15 0))) :: (le, (LA Z ((0 : Int64) :: List.replicate 15 0))) :: (ss, (IA Z .byte (List.replicate 16 0))) :: (il, (ShAL Z (.int (0 : Int32)) dv (.int (0 : Int32)))) :: (tu, (IA Z .int [x])) :: F) [6, 6, 6, 6, 6, 6] rfl ?_
  exact W.retN (t := .boolean) 1 d9_322 rfl (by simp) rfl (by decide) (by decide) ⟨rfl, rfl⟩
set_option maxRecDepth 65536 in
set_option maxHeartbeats 40000000 in
theorem addT1 (l : Launch) (Z : State) (n0 : Nat) (a0 : Array Value) (hw : ∀ d ∈ tables_1, d.before a0 Z = true) (F : Asn) (dv : Value) (hdr : dv.isRef = true) (t sl ix il rv va le ss : Addr) (tu : Addr) (x : Int32) (a : Int32) (xs : List Int32) (p : Nat) (hlx : xs.length = 32) (hp : p < 32) : W l Z n0 ("com/example/mendb/mendb/TupleStore", "add", prog_126_method_22_code, 9, (some .boolean)) ({ frames := 3, cells := 1, slots := 4, locals := 80 } : Room) (Ret (some (.int 1)) ((t, (ShTS Z (.ref sl) (.ref ix) (.ref il) (.ref rv) (.int (1 : Int32)) (.ref va) (.ref le) (.ref ss) (.int (2 : Int32)) (.int (2 : Int32)) .null (.int (0 : Int32)) (.int (0 : Int32)) (.int (0 : Int32)))) :: (sl, (IA Z .int (xs.set p 2))) :: (rv, (IA Z .int (List.replicate 16 0))) :: (va, (IA Z .int (a :: x :: List.replicate 14 0))) :: (le, (LA Z ((0 : Int64) :: (0 : Int64) :: List.replicate 14 0))) :: (ss, (IA Z .byte (List.replicate 16 0))) :: (il, (ShAL Z (.int (0 : Int32)) dv (.int (0 : Int32)))) :: (tu, (IA Z .int [x])) :: F)) 0 0 ((t, (ShTS Z (.ref sl) (.ref ix) (.ref il) (.ref rv) (.int (1 : Int32)) (.ref va) (.ref le) (.ref ss) (.int (1 : Int32)) (.int (1 : Int32)) .null (.int (0 : Int32)) (.int (0 : Int32)) (.int (0 : Int32)))) :: (sl, (IA Z .int xs)) :: (rv, (IA Z .int (List.replicate 16 0))) :: (va, (IA Z .int (a :: List.replicate 15 0))) :: (le, (LA Z ((0 : Int64) :: List.replicate 15 0))) :: (ss, (IA Z .byte (List.replicate 16 0))) :: (il, (ShAL Z (.int (0 : Int32)) dv (.int (0 : Int32)))) :: (tu, (IA Z .int [x])) :: F) 89 #[.val (.ref t), .val (.ref tu), .val (.long (0 : Int64)), .second, .val (.int (31 : Int32)), .val (.int (Int32.ofNat p)), .unset, .unset, .unset] [] := by
  refine W.aloadN d9_89 (pc' := 90) rfl rfl rfl ?_
  refine W.getF 0 9 d9_90 (host := "") (Or.inl (wd hw 93 rfl)) Via.refl rfl rfl (pc' := 93) rfl ?_
  refine W.aloadN d9_93 (pc' := 94) rfl rfl rfl ?_
  refine W.getF 0 7 d9_94 (host := "") (Or.inl (wd hw 66 rfl)) Via.refl rfl rfl (pc' := 97) rfl ?_
  refine W.len 5 (16 : Int32) d9_97 rfl rfl (pc' := 98) rfl ?_
  refine W.icmpY d9_98 (by decide) (by decide) (pc' := 180) rfl ?_
  refine W.aloadN d9_180 (pc' := 181) rfl rfl rfl ?_
  refine W.iconst (0 : Int32) d9_181 (pc' := 182) rfl rfl ?_
  refine W.aloadN d9_182 (pc' := 183) rfl rfl rfl ?_
  refine W.getF 0 5 d9_183 (host := "") (Or.inl (wd hw 60 rfl)) Via.refl rfl rfl (pc' := 186) rfl ?_
  refine W.aloadN d9_186 (pc' := 187) rfl rfl rfl ?_
  refine W.getF 0 9 d9_187 (host := "") (Or.inl (wd hw 93 rfl)) Via.refl rfl rfl (pc' := 190) rfl ?_
  refine W.aloadN d9_190 (pc' := 191) rfl rfl rfl ?_
  refine W.getF 0 4 d9_191 (host := "") (Or.inl (wd hw 58 rfl)) Via.refl rfl rfl (pc' := 194) rfl ?_
  refine W.imul d9_194 (pc' := 195) rfl ?_
  refine W.topI (1 : Int32) (by decide) ?_
  refine W.aloadN d9_195 (pc' := 196) rfl rfl rfl ?_
  refine W.getF 0 4 d9_196 (host := "") (Or.inl (wd hw 58 rfl)) Via.refl rfl rfl (pc' := 199) rfl ?_
  refine W.copy1 ((t, (ShTS Z (.ref sl) (.ref ix) (.ref il) (.ref rv) (.int (1 : Int32)) (.ref va) (.ref le) (.ref ss) (.int (1 : Int32)) (.int (1 : Int32)) .null (.int (0 : Int32)) (.int (0 : Int32)) (.int (0 : Int32)))) :: (sl, (IA Z .int xs)) :: (rv, (IA Z .int (List.replicate 16 0))) :: (va, (IA Z .int (a :: x :: List.replicate 14 0))) :: (le, (LA Z ((0 : Int64) :: List.replicate 15 0))) :: (ss, (IA Z .byte (List.replicate 16 0))) :: (il, (ShAL Z (.int (0 : Int32)) dv (.int (0 : Int32)))) :: (tu, (IA Z .int [x])) :: F) 7 3 1 d9_199 (wd hw 95 rfl) (wd hw 98 rfl) (wd hw 96 rfl) (wd hw 97 rfl) rfl rfl rfl (by decide) rfl (Nat.le_of_ble_eq_true rfl) (Nat.le_of_ble_eq_true rfl) (Nat.le_of_ble_eq_true rfl) rfl rfl (Nat.le_of_ble_eq_true rfl) (Nat.le_of_ble_eq_true rfl) (pc' := 202) rfl ?_
  refine W.aloadN d9_202 (pc' := 203) rfl rfl rfl ?_
  refine W.getF 0 6 d9_203 (host := "") (Or.inl (wd hw 63 rfl)) Via.refl rfl rfl (pc' := 206) rfl ?_
  refine W.aloadN d9_206 (pc' := 207) rfl rfl rfl ?_
  refine W.getF 0 9 d9_207 (host := "") (Or.inl (wd hw 93 rfl)) Via.refl rfl rfl (pc' := 210) rfl ?_
  refine W.lloadN d9_210 (pc' := 211) rfl rfl ?_
  refine W.lastore ((t, (ShTS Z (.ref sl) (.ref ix) (.ref il) (.ref rv) (.int (1 : Int32)) (.ref va) (.ref le) (.ref ss) (.int (1 : Int32)) (.int (1 : Int32)) .null (.int (0 : Int32)) (.int (0 : Int32)) (.int (0 : Int32)))) :: (sl, (IA Z .int xs)) :: (rv, (IA Z .int (List.replicate 16 0))) :: (va, (IA Z .int (a :: x :: List.replicate 14 0))) :: (le, (LA Z ((0 : Int64) :: (0 : Int64) :: List.replicate 14 0))) :: (ss, (IA Z .byte (List.replicate 16 0))) :: (il, (ShAL Z (.int (0 : Int32)) dv (.int (0 : Int32)))) :: (tu, (IA Z .int [x])) :: F) 4 1 d9_211 rfl (by decide) rfl (Nat.le_of_ble_eq_true rfl) rfl (pc' := 212) rfl ?_
  refine W.aloadN d9_212 (pc' := 213) rfl rfl rfl ?_
  refine W.getF 0 10 d9_213 (host := "") (Or.inl (wd hw 99 rfl)) Via.refl rfl rfl (pc' := 216) rfl ?_
  refine W.nullY d9_216  (by decide) (pc' := 229) rfl ?_
  refine W.aloadN d9_229 (pc' := 230) rfl rfl rfl ?_
  refine W.getF 0 7 d9_230 (host := "") (Or.inl (wd hw 66 rfl)) Via.refl rfl rfl (pc' := 233) rfl ?_
  refine W.aloadN d9_233 (pc' := 234) rfl rfl rfl ?_
  refine W.getF 0 9 d9_234 (host := "") (Or.inl (wd hw 93 rfl)) Via.refl rfl rfl (pc' := 237) rfl ?_
  refine W.iconst (0 : Int32) d9_237 (pc' := 238) rfl rfl ?_
  refine W.bastore ((t, (ShTS Z (.ref sl) (.ref ix) (.ref il) (.ref rv) (.int (1 : Int32)) (.ref va) (.ref le) (.ref ss) (.int (1 : Int32)) (.int (1 : Int32)) .null (.int (0 : Int32)) (.int (0 : Int32)) (.int (0 : Int32)))) :: (sl, (IA Z .int xs)) :: (rv, (IA Z .int (List.replicate 16 0))) :: (va, (IA Z .int (a :: x :: List.replicate 14 0))) :: (le, (LA Z ((0 : Int64) :: (0 : Int64) :: List.replicate 14 0))) :: (ss, (IA Z .byte (List.replicate 16 0))) :: (il, (ShAL Z (.int (0 : Int32)) dv (.int (0 : Int32)))) :: (tu, (IA Z .int [x])) :: F) 5 1 d9_238 rfl (by decide) rfl (Nat.le_of_ble_eq_true rfl) rfl (pc' := 239) rfl ?_
  refine W.aloadN d9_239 (pc' := 240) rfl rfl rfl ?_
  refine W.getF 0 0 d9_240 (host := "") (Or.inl (wd hw 10 rfl)) Via.refl rfl rfl (pc' := 243) rfl ?_
  refine W.iload d9_243 (pc' := 245) rfl rfl ?_
  refine W.aloadN d9_245 (pc' := 246) rfl rfl rfl ?_
  refine W.getF 0 9 d9_246 (host := "") (Or.inl (wd hw 93 rfl)) Via.refl rfl rfl (pc' := 249) rfl ?_
  refine W.iconst (1 : Int32) d9_249 (pc' := 250) rfl rfl ?_
  refine W.iadd d9_250 (pc' := 251) rfl ?_
  refine W.topI (2 : Int32) (by decide) ?_
  refine W.iastore ((t, (ShTS Z (.ref sl) (.ref ix) (.ref il) (.ref rv) (.int (1 : Int32)) (.ref va) (.ref le) (.ref ss) (.int (1 : Int32)) (.int (1 : Int32)) .null (.int (0 : Int32)) (.int (0 : Int32)) (.int (0 : Int32)))) :: (sl, (IA Z .int (xs.set p 2))) :: (rv, (IA Z .int (List.replicate 16 0))) :: (va, (IA Z .int (a :: x :: List.replicate 14 0))) :: (le, (LA Z ((0 : Int64) :: (0 : Int64) :: List.replicate 14 0))) :: (ss, (IA Z .byte (List.replicate 16 0))) :: (il, (ShAL Z (.int (0 : Int32)) dv (.int (0 : Int32)))) :: (tu, (IA Z .int [x])) :: F) 1 p d9_251 rfl (own_nn hp) (own_tn hp) (by rw [hlx]; exact hp) rfl (pc' := 252) rfl ?_
  refine W.aloadN d9_252 (pc' := 253) rfl rfl rfl ?_
  refine W.getF 0 9 d9_253 (host := "") (Or.inl (wd hw 93 rfl)) Via.refl rfl rfl (pc' := 256) rfl ?_
  refine W.istore #[.val (.ref t), .val (.ref tu), .val (.long (0 : Int64)), .second, .val (.int (31 : Int32)), .val (.int (Int32.ofNat p)), .val (.int (1 : Int32)), .unset, .unset] d9_256 (pc' := 258) rfl rfl ?_
  refine W.aloadN d9_258 (pc' := 259) rfl rfl rfl ?_
  refine W.dup d9_259 (pc' := 260) rfl rfl ?_
  refine W.getF 0 9 d9_260 (host := "") (Or.inl (wd hw 93 rfl)) Via.refl rfl rfl (pc' := 263) rfl ?_
  refine W.iconst (1 : Int32) d9_263 (pc' := 264) rfl rfl ?_
  refine W.iadd d9_264 (pc' := 265) rfl ?_
  refine W.topI (2 : Int32) (by decide) ?_
  refine W.putF ((t, (ShTS Z (.ref sl) (.ref ix) (.ref il) (.ref rv) (.int (1 : Int32)) (.ref va) (.ref le) (.ref ss) (.int (1 : Int32)) (.int (2 : Int32)) .null (.int (0 : Int32)) (.int (0 : Int32)) (.int (0 : Int32)))) :: (sl, (IA Z .int (xs.set p 2))) :: (rv, (IA Z .int (List.replicate 16 0))) :: (va, (IA Z .int (a :: x :: List.replicate 14 0))) :: (le, (LA Z ((0 : Int64) :: (0 : Int64) :: List.replicate 14 0))) :: (ss, (IA Z .byte (List.replicate 16 0))) :: (il, (ShAL Z (.int (0 : Int32)) dv (.int (0 : Int32)))) :: (tu, (IA Z .int [x])) :: F) 0 9 d9_265 (host := "") (Or.inl (wd hw 93 rfl)) Via.refl (Or.inl (wd hw 94 rfl)) (wd hw 1 rfl) (ty := .int) (by decide) rfl rfl rfl rfl rfl (pc' := 268) rfl ?_
  refine W.aloadN d9_268 (pc' := 269) rfl rfl rfl ?_
  refine W.dup d9_269 (pc' := 270) rfl rfl ?_
  refine W.getF 0 8 d9_270 (host := "") (Or.inl (wd hw 78 rfl)) Via.refl rfl rfl (pc' := 273) rfl ?_
  refine W.iconst (1 : Int32) d9_273 (pc' := 274) rfl rfl ?_
  refine W.iadd d9_274 (pc' := 275) rfl ?_
  refine W.topI (2 : Int32) (by decide) ?_
  refine W.putF ((t, (ShTS Z (.ref sl) (.ref ix) (.ref il) (.ref rv) (.int (1 : Int32)) (.ref va) (.ref le) (.ref ss) (.int (2 : Int32)) (.int (2 : Int32)) .null (.int (0 : Int32)) (.int (0 : Int32)) (.int (0 : Int32)))) :: (sl, (IA Z .int (xs.set p 2))) :: (rv, (IA Z .int (List.replicate 16 0))) :: (va, (IA Z .int (a :: x :: List.replicate 14 0))) :: (le, (LA Z ((0 : Int64) :: (0 : Int64) :: List.replicate 14 0))) :: (ss, (IA Z .byte (List.replicate 16 0))) :: (il, (ShAL Z (.int (0 : Int32)) dv (.int (0 : Int32)))) :: (tu, (IA Z .int [x])) :: F) 0 8 d9_275 (host := "") (Or.inl (wd hw 78 rfl)) Via.refl (Or.inl (wd hw 79 rfl)) (wd hw 1 rfl) (ty := .int) (by decide) rfl rfl rfl rfl rfl (pc' := 278) rfl ?_
  refine W.aloadN d9_278 (pc' := 279) rfl rfl rfl ?_
  refine W.getF 0 2 d9_279 (host := "") (Or.inl (wd hw 54 rfl)) Via.refl rfl rfl (pc' := 282) rfl ?_
  refine W.pull ((t, (ShTS Z (.ref sl) (.ref ix) (.ref il) (.ref rv) (.int (1 : Int32)) (.ref va) (.ref le) (.ref ss) (.int (2 : Int32)) (.int (2 : Int32)) .null (.int (0 : Int32)) (.int (0 : Int32)) (.int (0 : Int32)))) :: (sl, (IA Z .int (xs.set p 2))) :: (rv, (IA Z .int (List.replicate 16 0))) :: (va, (IA Z .int (a :: x :: List.replicate 14 0))) :: (le, (LA Z ((0 : Int64) :: (0 : Int64) :: List.replicate 14 0))) :: (ss, (IA Z .byte (List.replicate 16 0))) :: (tu, (IA Z .int [x])) :: F) 6 rfl rfl ?_
  refine W.callF 0 rfl (mIter l Z n0 a0 hw ((t, (ShTS Z (.ref sl) (.ref ix) (.ref il) (.ref rv) (.int (1 : Int32)) (.ref va) (.ref le) (.ref ss) (.int (2 : Int32)) (.int (2 : Int32)) .null (.int (0 : Int32)) (.int (0 : Int32)) (.int (0 : Int32)))) :: (sl, (IA Z .int (xs.set p 2))) :: (rv, (IA Z .int (List.replicate 16 0))) :: (va, (IA Z .int (a :: x :: List.replicate 14 0))) :: (le, (LA Z ((0 : Int64) :: (0 : Int64) :: List.replicate 14 0))) :: (ss, (IA Z .byte (List.replicate 16 0))) :: (tu, (IA Z .int [x])) :: F) dv hdr il) d9_282 (wd hw 101 rfl) (wd hw 102 rfl) (wd hw 103 rfl) (wd hw 104 rfl) (wd hw 105 rfl) (wd hw 106 rfl) (wd hw 107 rfl) (wd hw 108 rfl) (wd hw 32 rfl) (wd hw 109 rfl) (by decide) pd4 rfl rfl (Nat.le_of_ble_eq_true rfl) (Nat.le_of_ble_eq_true rfl) (Nat.le_of_ble_eq_true rfl) (Nat.le_of_ble_eq_true rfl) rfl (pc' := 287) rfl ?_
  rintro _ _ ⟨it, rfl, rfl⟩
  show W _ _ _ _ _ _ 1 4 ((it, (ShIT Z (.ref il) (.int (-1 : Int32)) (.int (0 : Int32)) (.int (0 : Int32)))) :: (il, (ShAL Z (.int (0 : Int32)) dv (.int (0 : Int32)))) :: (t, (ShTS Z (.ref sl) (.ref ix) (.ref il) (.ref rv) (.int (1 : Int32)) (.ref va) (.ref le) (.ref ss) (.int (2 : Int32)) (.int (2 : Int32)) .null (.int (0 : Int32)) (.int (0 : Int32)) (.int (0 : Int32)))) :: (sl, (IA Z .int (xs.set p 2))) :: (rv, (IA Z .int (List.replicate 16 0))) :: (va, (IA Z .int (a :: x :: List.replicate 14 0))) :: (le, (LA Z ((0 : Int64) :: (0 : Int64) :: List.replicate 14 0))) :: (ss, (IA Z .byte (List.replicate 16 0))) :: (tu, (IA Z .int [x])) :: F) 287 #[.val (.ref t), .val (.ref tu), .val (.long (0 : Int64)), .second, .val (.int (31 : Int32)), .val (.int (Int32.ofNat p)), .val (.int (1 : Int32)), .unset, .unset] [(.ref it)]
  refine W.astore #[.val (.ref t), .val (.ref tu), .val (.long (0 : Int64)), .second, .val (.int (31 : Int32)), .val (.int (Int32.ofNat p)), .val (.int (1 : Int32)), .val (.ref it), .unset] d9_287 (pc' := 289) rfl rfl rfl ?_
  refine W.aload d9_289 (pc' := 291) rfl rfl rfl ?_
  refine W.callF 0 rfl (mHas l Z n0 a0 hw ((t, (ShTS Z (.ref sl) (.ref ix) (.ref il) (.ref rv) (.int (1 : Int32)) (.ref va) (.ref le) (.ref ss) (.int (2 : Int32)) (.int (2 : Int32)) .null (.int (0 : Int32)) (.int (0 : Int32)) (.int (0 : Int32)))) :: (sl, (IA Z .int (xs.set p 2))) :: (rv, (IA Z .int (List.replicate 16 0))) :: (va, (IA Z .int (a :: x :: List.replicate 14 0))) :: (le, (LA Z ((0 : Int64) :: (0 : Int64) :: List.replicate 14 0))) :: (ss, (IA Z .byte (List.replicate 16 0))) :: (tu, (IA Z .int [x])) :: F) dv hdr it il) d9_291 (wd hw 126 rfl) (wd hw 127 rfl) (wd hw 128 rfl) (wd hw 129 rfl) (wd hw 130 rfl) (wd hw 131 rfl) (wd hw 132 rfl) (wd hw 133 rfl) (wd hw 112 rfl) (wd hw 134 rfl) (by decide) pd5 rfl rfl (Nat.le_of_ble_eq_true rfl) (Nat.le_of_ble_eq_true rfl) (Nat.le_of_ble_eq_true rfl) (Nat.le_of_ble_eq_true rfl) rfl (pc' := 296) rfl ?_
  intro v9 s9 q9
  rw [q9.1, q9.2]
  clear q9 v9 s9
  show W _ _ _ _ _ _ 1 4 ((it, (ShIT Z (.ref il) (.int (-1 : Int32)) (.int (0 : Int32)) (.int (0 : Int32)))) :: (il, (ShAL Z (.int (0 : Int32)) dv (.int (0 : Int32)))) :: (t, (ShTS Z (.ref sl) (.ref ix) (.ref il) (.ref rv) (.int (1 : Int32)) (.ref va) (.ref le) (.ref ss) (.int (2 : Int32)) (.int (2 : Int32)) .null (.int (0 : Int32)) (.int (0 : Int32)) (.int (0 : Int32)))) :: (sl, (IA Z .int (xs.set p 2))) :: (rv, (IA Z .int (List.replicate 16 0))) :: (va, (IA Z .int (a :: x :: List.replicate 14 0))) :: (le, (LA Z ((0 : Int64) :: (0 : Int64) :: List.replicate 14 0))) :: (ss, (IA Z .byte (List.replicate 16 0))) :: (tu, (IA Z .int [x])) :: F) 296 #[.val (.ref t), .val (.ref tu), .val (.long (0 : Int64)), .second, .val (.int (31 : Int32)), .val (.int (Int32.ofNat p)), .val (.int (1 : Int32)), .val (.ref it), .unset] [(.int (0 : Int32))]
  refine W.ifY d9_296 (by decide) (by decide) (pc' := 321) rfl ?_
  refine W.iconst (1 : Int32) d9_321 (pc' := 322) rfl rfl ?_
  refine W.drop ((il, (ShAL Z (.int (0 : Int32)) dv (.int (0 : Int32)))) :: (t, (ShTS Z (.ref sl) (.ref ix) (.ref il) (.ref rv) (.int (1 : Int32)) (.ref va) (.ref le) (.ref ss) (.int (2 : Int32)) (.int (2 : Int32)) .null (.int (0 : Int32)) (.int (0 : Int32)) (.int (0 : Int32)))) :: (sl, (IA Z .int (xs.set p 2))) :: (rv, (IA Z .int (List.replicate 16 0))) :: (va, (IA Z .int (a :: x :: List.replicate 14 0))) :: (le, (LA Z ((0 : Int64) :: (0 : Int64) :: List.replicate 14 0))) :: (ss, (IA Z .byte (List.replicate 16 0))) :: (tu, (IA Z .int [x])) :: F) 0 rfl ?_
  refine W.pulls ((t, (ShTS Z (.ref sl) (.ref ix) (.ref il) (.ref rv) (.int (1 : Int32)) (.ref va) (.ref le) (.ref ss) (.int (2 : Int32)) (.int (2 : Int32)) .null (.int (0 : Int32)) (.int (0 : Int32)) (.int (0 : Int32)))) :: (sl, (IA Z .int (xs.set p 2))) :: (rv, (IA Z .int (List.replicate 16 0))) :: (va, (IA Z .int (a :: x :: List.replicate 14 0))) :: (le, (LA Z ((0 : Int64) :: (0 : Int64) :: List.replicate 14 0))) :: (ss, (IA Z .byte (List.replicate 16 0))) :: (il, (ShAL Z (.int (0 : Int32)) dv (.int (0 : Int32)))) :: (tu, (IA Z .int [x])) :: F) [6, 6, 6, 6, 6, 6] rfl ?_
  exact W.retN (t := .boolean) 1 d9_322 rfl (by simp) rfl (by decide) (by decide) ⟨rfl, rfl⟩
theorem pn_mAdd0 : plainFor (⟨"com/example/mendb/mendb/TupleStore", "add", "([IJ)Z"⟩ : MethodName) = true := by first | (refine plainFor_of_name ?_; simp [plainName, overriddenIn]; done) | (refine plainFor_of_name ?_; decide +kernel) | decide +kernel
set_option maxRecDepth 65536 in
set_option maxHeartbeats 40000000 in
theorem mAdd0 (l : Launch) (Z : State) (n0 : Nat) (a0 : Array Value) (hw : ∀ d ∈ tables_1, d.before a0 Z = true) (F : Asn) (dv : Value) (hdr : dv.isRef = true) (t sl ix il rv va le ss : Addr) (tu : Addr) (a : Int32) : Sp l Z n0 (⟨"com/example/mendb/mendb/TupleStore", "add", "([IJ)Z"⟩ : MethodName) prog_126_method_22_code 9 (some .boolean) ({ frames := 3, cells := 1, slots := 4, locals := 80 } : Room) [(.ref t), (.ref tu), (.long (0 : Int64))] ((t, (ShTS Z (.ref sl) (.ref ix) (.ref il) (.ref rv) (.int (1 : Int32)) (.ref va) (.ref le) (.ref ss) (.int (0 : Int32)) (.int (0 : Int32)) .null (.int (0 : Int32)) (.int (0 : Int32)) (.int (0 : Int32)))) :: (sl, (IA Z .int (List.replicate 32 0))) :: (rv, (IA Z .int (List.replicate 16 0))) :: (va, (IA Z .int (List.replicate 16 0))) :: (le, (LA Z (List.replicate 16 0))) :: (ss, (IA Z .byte (List.replicate 16 0))) :: (il, (ShAL Z (.int (0 : Int32)) dv (.int (0 : Int32)))) :: (tu, (IA Z .int [a])) :: F) (Ret (some (.int 1)) ((t, (ShTS Z (.ref sl) (.ref ix) (.ref il) (.ref rv) (.int (1 : Int32)) (.ref va) (.ref le) (.ref ss) (.int (1 : Int32)) (.int (1 : Int32)) .null (.int (0 : Int32)) (.int (0 : Int32)) (.int (0 : Int32)))) :: (sl, (IA Z .int (own_one (own_s a)))) :: (rv, (IA Z .int (List.replicate 16 0))) :: (va, (IA Z .int (a :: List.replicate 15 0))) :: (le, (LA Z ((0 : Int64) :: List.replicate 15 0))) :: (ss, (IA Z .byte (List.replicate 16 0))) :: (il, (ShAL Z (.int (0 : Int32)) dv (.int (0 : Int32)))) :: (tu, (IA Z .int [a])) :: F)) := by
  refine Sp.of (ls := #[.val (.ref t), .val (.ref tu), .val (.long (0 : Int64)), .second, .unset, .unset, .unset, .unset, .unset]) pn_mAdd0 (fun m => by first | (simp [entryFrame, mkF, argsToLocals, Value.category]; done) | rfl) ?_
  show W _ _ _ _ _ _ 0 0 ((t, (ShTS Z (.ref sl) (.ref ix) (.ref il) (.ref rv) (.int (1 : Int32)) (.ref va) (.ref le) (.ref ss) (.int (0 : Int32)) (.int (0 : Int32)) .null (.int (0 : Int32)) (.int (0 : Int32)) (.int (0 : Int32)))) :: (sl, (IA Z .int (List.replicate 32 0))) :: (rv, (IA Z .int (List.replicate 16 0))) :: (va, (IA Z .int (List.replicate 16 0))) :: (le, (LA Z (List.replicate 16 0))) :: (ss, (IA Z .byte (List.replicate 16 0))) :: (il, (ShAL Z (.int (0 : Int32)) dv (.int (0 : Int32)))) :: (tu, (IA Z .int [a])) :: F) 0 #[.val (.ref t), .val (.ref tu), .val (.long (0 : Int64)), .second, .unset, .unset, .unset, .unset, .unset] []
  refine W.aloadN d9_0 (pc' := 1) rfl rfl rfl ?_
  refine W.getF 0 8 d9_1 (host := "") (Or.inl (wd hw 78 rfl)) Via.refl rfl rfl (pc' := 4) rfl ?_
  refine W.iconst (1 : Int32) d9_4 (pc' := 5) rfl rfl ?_
  refine W.iadd d9_5 (pc' := 6) rfl ?_
  refine W.topI (1 : Int32) (by decide) ?_
  refine W.iconst (2 : Int32) d9_6 (pc' := 7) rfl rfl ?_
  refine W.imul d9_7 (pc' := 8) rfl ?_
  refine W.topI (2 : Int32) (by decide) ?_
  refine W.aloadN d9_8 (pc' := 9) rfl rfl rfl ?_
  refine W.getF 0 0 d9_9 (host := "") (Or.inl (wd hw 10 rfl)) Via.refl rfl rfl (pc' := 12) rfl ?_
  refine W.len 1 (32 : Int32) d9_12 rfl rfl (pc' := 13) rfl ?_
  refine W.icmpY d9_13 (by decide) (by decide) (pc' := 27) rfl ?_
  refine W.aloadN d9_27 (pc' := 28) rfl rfl rfl ?_
  refine W.getF 0 0 d9_28 (host := "") (Or.inl (wd hw 10 rfl)) Via.refl rfl rfl (pc' := 31) rfl ?_
  refine W.len 1 (32 : Int32) d9_31 rfl rfl (pc' := 32) rfl ?_
  refine W.iconst (1 : Int32) d9_32 (pc' := 33) rfl rfl ?_
  refine W.isub d9_33 (pc' := 34) rfl ?_
  refine W.topI (31 : Int32) (by decide) ?_
  refine W.istore #[.val (.ref t), .val (.ref tu), .val (.long (0 : Int64)), .second, .val (.int (31 : Int32)), .unset, .unset, .unset, .unset] d9_34 (pc' := 36) rfl rfl ?_
  refine W.aloadN d9_36 (pc' := 37) rfl rfl rfl ?_
  refine W.aloadN d9_37 (pc' := 38) rfl rfl rfl ?_
  refine W.iconst (0 : Int32) d9_38 (pc' := 39) rfl rfl ?_
  refine W.pulls ((t, (ShTS Z (.ref sl) (.ref ix) (.ref il) (.ref rv) (.int (1 : Int32)) (.ref va) (.ref le) (.ref ss) (.int (0 : Int32)) (.int (0 : Int32)) .null (.int (0 : Int32)) (.int (0 : Int32)) (.int (0 : Int32)))) :: (tu, (IA Z .int [a])) :: (sl, (IA Z .int (List.replicate 32 0))) :: (rv, (IA Z .int (List.replicate 16 0))) :: (va, (IA Z .int (List.replicate 16 0))) :: (le, (LA Z (List.replicate 16 0))) :: (ss, (IA Z .byte (List.replicate 16 0))) :: (il, (ShAL Z (.int (0 : Int32)) dv (.int (0 : Int32)))) :: F) [7, 1] rfl ?_
  refine W.callP 0 rfl (mHash0 l Z n0 a0 hw ((sl, (IA Z .int (List.replicate 32 0))) :: (rv, (IA Z .int (List.replicate 16 0))) :: (va, (IA Z .int (List.replicate 16 0))) :: (le, (LA Z (List.replicate 16 0))) :: (ss, (IA Z .byte (List.replicate 16 0))) :: (il, (ShAL Z (.int (0 : Int32)) dv (.int (0 : Int32)))) :: F) t tu (.ref sl) (.ref ix) (.ref il) (.ref rv) (.ref va) (.ref le) (.ref ss) (.int (0 : Int32)) (.int (0 : Int32)) .null (.int (0 : Int32)) (.int (0 : Int32)) (.int (0 : Int32)) [a] a rfl) d9_39 (wd hw 80 rfl) (wd hw 81 rfl) (wd hw 82 rfl) (wd hw 1 rfl) (wd hw 2 rfl) (wd hw 83 rfl) (by decide) pd6 rfl rfl (Nat.le_of_ble_eq_true rfl) (Nat.le_of_ble_eq_true rfl) (Nat.le_of_ble_eq_true rfl) (Nat.le_of_ble_eq_true rfl) rfl (pc' := 42) rfl ?_
  intro v9 s9 q9
  rw [q9.1, q9.2]
  clear q9 v9 s9
  show W _ _ _ _ _ _ 0 0 ((t, (ShTS Z (.ref sl) (.ref ix) (.ref il) (.ref rv) (.int (1 : Int32)) (.ref va) (.ref le) (.ref ss) (.int (0 : Int32)) (.int (0 : Int32)) .null (.int (0 : Int32)) (.int (0 : Int32)) (.int (0 : Int32)))) :: (tu, (IA Z .int [a])) :: (sl, (IA Z .int (List.replicate 32 0))) :: (rv, (IA Z .int (List.replicate 16 0))) :: (va, (IA Z .int (List.replicate 16 0))) :: (le, (LA Z (List.replicate 16 0))) :: (ss, (IA Z .byte (List.replicate 16 0))) :: (il, (ShAL Z (.int (0 : Int32)) dv (.int (0 : Int32)))) :: F) 42 #[.val (.ref t), .val (.ref tu), .val (.long (0 : Int64)), .second, .val (.int (31 : Int32)), .unset, .unset, .unset, .unset] [(.int (own_h a))]
  refine W.iload d9_42 (pc' := 44) rfl rfl ?_
  refine W.iand d9_44 (pc' := 45) rfl ?_
  refine W.topI (Int32.ofNat (own_s a)) (own_slot a) ?_
  refine W.pulls ((t, (ShTS Z (.ref sl) (.ref ix) (.ref il) (.ref rv) (.int (1 : Int32)) (.ref va) (.ref le) (.ref ss) (.int (0 : Int32)) (.int (0 : Int32)) .null (.int (0 : Int32)) (.int (0 : Int32)) (.int (0 : Int32)))) :: (sl, (IA Z .int (List.replicate 32 0))) :: (rv, (IA Z .int (List.replicate 16 0))) :: (va, (IA Z .int (List.replicate 16 0))) :: (le, (LA Z (List.replicate 16 0))) :: (ss, (IA Z .byte (List.replicate 16 0))) :: (il, (ShAL Z (.int (0 : Int32)) dv (.int (0 : Int32)))) :: (tu, (IA Z .int [a])) :: F) [7, 7, 7, 7, 7, 7, 6] rfl ?_
  refine W.istore #[.val (.ref t), .val (.ref tu), .val (.long (0 : Int64)), .second, .val (.int (31 : Int32)), .val (.int (Int32.ofNat (own_s a))), .unset, .unset, .unset] d9_45 (pc' := 47) rfl rfl ?_
  refine W.aloadN d9_47 (pc' := 48) rfl rfl rfl ?_
  refine W.getF 0 0 d9_48 (host := "") (Or.inl (wd hw 10 rfl)) Via.refl rfl rfl (pc' := 51) rfl ?_
  refine W.iload d9_51 (pc' := 53) rfl rfl ?_
  refine W.iaload 1 (own_s a) (x := 0) d9_53 rfl (own_nn (own_s_lt a)) (own_tn (own_s_lt a)) (by rw [List.getElem?_replicate, if_pos (own_s_lt a)]) (pc' := 54) rfl ?_
  refine W.ifY d9_54 (by decide) (by decide) (pc' := 89) rfl ?_
  exact addT0 l Z n0 a0 hw F dv hdr t sl ix il rv va le ss tu a _ (own_s a) (by decide) (own_s_lt a)
theorem pn_mAddE : plainFor (⟨"com/example/mendb/mendb/TupleStore", "add", "([IJ)Z"⟩ : MethodName) = true := by first | (refine plainFor_of_name ?_; simp [plainName, overriddenIn]; done) | (refine plainFor_of_name ?_; decide +kernel) | decide +kernel
set_option maxRecDepth 65536 in
set_option maxHeartbeats 40000000 in
theorem mAddE (l : Launch) (Z : State) (n0 : Nat) (a0 : Array Value) (hw : ∀ d ∈ tables_1, d.before a0 Z = true) (F : Asn) (dv : Value) (hdr : dv.isRef = true) (t sl ix il rv va le ss : Addr) (tu : Addr) (a b : Int32) (hab : a = b) : Sp l Z n0 (⟨"com/example/mendb/mendb/TupleStore", "add", "([IJ)Z"⟩ : MethodName) prog_126_method_22_code 9 (some .boolean) ({ frames := 3, cells := 1, slots := 4, locals := 80 } : Room) [(.ref t), (.ref tu), (.long (0 : Int64))] ((t, (ShTS Z (.ref sl) (.ref ix) (.ref il) (.ref rv) (.int (1 : Int32)) (.ref va) (.ref le) (.ref ss) (.int (1 : Int32)) (.int (1 : Int32)) .null (.int (0 : Int32)) (.int (0 : Int32)) (.int (0 : Int32)))) :: (sl, (IA Z .int (own_one (own_s a)))) :: (rv, (IA Z .int (List.replicate 16 0))) :: (va, (IA Z .int (a :: List.replicate 15 0))) :: (le, (LA Z ((0 : Int64) :: List.replicate 15 0))) :: (ss, (IA Z .byte (List.replicate 16 0))) :: (il, (ShAL Z (.int (0 : Int32)) dv (.int (0 : Int32)))) :: (tu, (IA Z .int [b])) :: F) (Ret (some (.int 0)) ((t, (ShTS Z (.ref sl) (.ref ix) (.ref il) (.ref rv) (.int (1 : Int32)) (.ref va) (.ref le) (.ref ss) (.int (1 : Int32)) (.int (1 : Int32)) .null (.int (0 : Int32)) (.int (0 : Int32)) (.int (0 : Int32)))) :: (sl, (IA Z .int (own_one (own_s a)))) :: (rv, (IA Z .int (List.replicate 16 0))) :: (va, (IA Z .int (a :: List.replicate 15 0))) :: (le, (LA Z ((0 : Int64) :: List.replicate 15 0))) :: (ss, (IA Z .byte (List.replicate 16 0))) :: (il, (ShAL Z (.int (0 : Int32)) dv (.int (0 : Int32)))) :: (tu, (IA Z .int [b])) :: F)) := by
  refine Sp.of (ls := #[.val (.ref t), .val (.ref tu), .val (.long (0 : Int64)), .second, .unset, .unset, .unset, .unset, .unset]) pn_mAddE (fun m => by first | (simp [entryFrame, mkF, argsToLocals, Value.category]; done) | rfl) ?_
  show W _ _ _ _ _ _ 0 0 ((t, (ShTS Z (.ref sl) (.ref ix) (.ref il) (.ref rv) (.int (1 : Int32)) (.ref va) (.ref le) (.ref ss) (.int (1 : Int32)) (.int (1 : Int32)) .null (.int (0 : Int32)) (.int (0 : Int32)) (.int (0 : Int32)))) :: (sl, (IA Z .int (own_one (own_s a)))) :: (rv, (IA Z .int (List.replicate 16 0))) :: (va, (IA Z .int (a :: List.replicate 15 0))) :: (le, (LA Z ((0 : Int64) :: List.replicate 15 0))) :: (ss, (IA Z .byte (List.replicate 16 0))) :: (il, (ShAL Z (.int (0 : Int32)) dv (.int (0 : Int32)))) :: (tu, (IA Z .int [b])) :: F) 0 #[.val (.ref t), .val (.ref tu), .val (.long (0 : Int64)), .second, .unset, .unset, .unset, .unset, .unset] []
  refine W.aloadN d9_0 (pc' := 1) rfl rfl rfl ?_
  refine W.getF 0 8 d9_1 (host := "") (Or.inl (wd hw 78 rfl)) Via.refl rfl rfl (pc' := 4) rfl ?_
  refine W.iconst (1 : Int32) d9_4 (pc' := 5) rfl rfl ?_
  refine W.iadd d9_5 (pc' := 6) rfl ?_
  refine W.topI (2 : Int32) (by decide) ?_
  refine W.iconst (2 : Int32) d9_6 (pc' := 7) rfl rfl ?_
  refine W.imul d9_7 (pc' := 8) rfl ?_
  refine W.topI (4 : Int32) (by decide) ?_
  refine W.aloadN d9_8 (pc' := 9) rfl rfl rfl ?_
  refine W.getF 0 0 d9_9 (host := "") (Or.inl (wd hw 10 rfl)) Via.refl rfl rfl (pc' := 12) rfl ?_
  refine W.len 1 (32 : Int32) d9_12 rfl (by rw [own_one_len]; rfl) (pc' := 13) rfl ?_
  refine W.icmpY d9_13 (by decide) (by decide) (pc' := 27) rfl ?_
  refine W.aloadN d9_27 (pc' := 28) rfl rfl rfl ?_
  refine W.getF 0 0 d9_28 (host := "") (Or.inl (wd hw 10 rfl)) Via.refl rfl rfl (pc' := 31) rfl ?_
  refine W.len 1 (32 : Int32) d9_31 rfl (by rw [own_one_len]; rfl) (pc' := 32) rfl ?_
  refine W.iconst (1 : Int32) d9_32 (pc' := 33) rfl rfl ?_
  refine W.isub d9_33 (pc' := 34) rfl ?_
  refine W.topI (31 : Int32) (by decide) ?_
  refine W.istore #[.val (.ref t), .val (.ref tu), .val (.long (0 : Int64)), .second, .val (.int (31 : Int32)), .unset, .unset, .unset, .unset] d9_34 (pc' := 36) rfl rfl ?_
  refine W.aloadN d9_36 (pc' := 37) rfl rfl rfl ?_
  refine W.aloadN d9_37 (pc' := 38) rfl rfl rfl ?_
  refine W.iconst (0 : Int32) d9_38 (pc' := 39) rfl rfl ?_
  refine W.pulls ((t, (ShTS Z (.ref sl) (.ref ix) (.ref il) (.ref rv) (.int (1 : Int32)) (.ref va) (.ref le) (.ref ss) (.int (1 : Int32)) (.int (1 : Int32)) .null (.int (0 : Int32)) (.int (0 : Int32)) (.int (0 : Int32)))) :: (tu, (IA Z .int [b])) :: (sl, (IA Z .int (own_one (own_s a)))) :: (rv, (IA Z .int (List.replicate 16 0))) :: (va, (IA Z .int (a :: List.replicate 15 0))) :: (le, (LA Z ((0 : Int64) :: List.replicate 15 0))) :: (ss, (IA Z .byte (List.replicate 16 0))) :: (il, (ShAL Z (.int (0 : Int32)) dv (.int (0 : Int32)))) :: F) [7, 1] rfl ?_
  refine W.callP 0 rfl (mHash0 l Z n0 a0 hw ((sl, (IA Z .int (own_one (own_s a)))) :: (rv, (IA Z .int (List.replicate 16 0))) :: (va, (IA Z .int (a :: List.replicate 15 0))) :: (le, (LA Z ((0 : Int64) :: List.replicate 15 0))) :: (ss, (IA Z .byte (List.replicate 16 0))) :: (il, (ShAL Z (.int (0 : Int32)) dv (.int (0 : Int32)))) :: F) t tu (.ref sl) (.ref ix) (.ref il) (.ref rv) (.ref va) (.ref le) (.ref ss) (.int (1 : Int32)) (.int (1 : Int32)) .null (.int (0 : Int32)) (.int (0 : Int32)) (.int (0 : Int32)) [b] b rfl) d9_39 (wd hw 80 rfl) (wd hw 81 rfl) (wd hw 82 rfl) (wd hw 1 rfl) (wd hw 2 rfl) (wd hw 83 rfl) (by decide) pd6 rfl rfl (Nat.le_of_ble_eq_true rfl) (Nat.le_of_ble_eq_true rfl) (Nat.le_of_ble_eq_true rfl) (Nat.le_of_ble_eq_true rfl) rfl (pc' := 42) rfl ?_
  intro v9 s9 q9
  rw [q9.1, q9.2]
  clear q9 v9 s9
  show W _ _ _ _ _ _ 0 0 ((t, (ShTS Z (.ref sl) (.ref ix) (.ref il) (.ref rv) (.int (1 : Int32)) (.ref va) (.ref le) (.ref ss) (.int (1 : Int32)) (.int (1 : Int32)) .null (.int (0 : Int32)) (.int (0 : Int32)) (.int (0 : Int32)))) :: (tu, (IA Z .int [b])) :: (sl, (IA Z .int (own_one (own_s a)))) :: (rv, (IA Z .int (List.replicate 16 0))) :: (va, (IA Z .int (a :: List.replicate 15 0))) :: (le, (LA Z ((0 : Int64) :: List.replicate 15 0))) :: (ss, (IA Z .byte (List.replicate 16 0))) :: (il, (ShAL Z (.int (0 : Int32)) dv (.int (0 : Int32)))) :: F) 42 #[.val (.ref t), .val (.ref tu), .val (.long (0 : Int64)), .second, .val (.int (31 : Int32)), .unset, .unset, .unset, .unset] [(.int (own_h b))]
  refine W.iload d9_42 (pc' := 44) rfl rfl ?_
  refine W.iand d9_44 (pc' := 45) rfl ?_
  refine W.topI (Int32.ofNat (own_s b)) (own_slot b) ?_
  refine W.pulls ((t, (ShTS Z (.ref sl) (.ref ix) (.ref il) (.ref rv) (.int (1 : Int32)) (.ref va) (.ref le) (.ref ss) (.int (1 : Int32)) (.int (1 : Int32)) .null (.int (0 : Int32)) (.int (0 : Int32)) (.int (0 : Int32)))) :: (sl, (IA Z .int (own_one (own_s a)))) :: (rv, (IA Z .int (List.replicate 16 0))) :: (va, (IA Z .int (a :: List.replicate 15 0))) :: (le, (LA Z ((0 : Int64) :: List.replicate 15 0))) :: (ss, (IA Z .byte (List.replicate 16 0))) :: (il, (ShAL Z (.int (0 : Int32)) dv (.int (0 : Int32)))) :: (tu, (IA Z .int [b])) :: F) [7, 7, 7, 7, 7, 7, 6] rfl ?_
  refine W.istore #[.val (.ref t), .val (.ref tu), .val (.long (0 : Int64)), .second, .val (.int (31 : Int32)), .val (.int (Int32.ofNat (own_s b))), .unset, .unset, .unset] d9_45 (pc' := 47) rfl rfl ?_
  refine W.aloadN d9_47 (pc' := 48) rfl rfl rfl ?_
  refine W.getF 0 0 d9_48 (host := "") (Or.inl (wd hw 10 rfl)) Via.refl rfl rfl (pc' := 51) rfl ?_
  refine W.iload d9_51 (pc' := 53) rfl rfl ?_
  refine W.iaload 1 (own_s b) (x := 1) d9_53 rfl (own_nn (own_s_lt b)) (own_tn (own_s_lt b)) (by rw [own_one_at (own_s_lt b), hab, if_pos rfl]) (pc' := 54) rfl ?_
  refine W.ifN d9_54 (by decide) (pc' := 57) rfl ?_
  refine W.aloadN d9_57 (pc' := 58) rfl rfl rfl ?_
  refine W.aloadN d9_58 (pc' := 59) rfl rfl rfl ?_
  refine W.getF 0 0 d9_59 (host := "") (Or.inl (wd hw 10 rfl)) Via.refl rfl rfl (pc' := 62) rfl ?_
  refine W.iload d9_62 (pc' := 64) rfl rfl ?_
  refine W.iaload 1 (own_s b) (x := 1) d9_64 rfl (own_nn (own_s_lt b)) (own_tn (own_s_lt b)) (by rw [own_one_at (own_s_lt b), hab, if_pos rfl]) (pc' := 65) rfl ?_
  refine W.iconst (1 : Int32) d9_65 (pc' := 66) rfl rfl ?_
  refine W.isub d9_66 (pc' := 67) rfl ?_
  refine W.topI (0 : Int32) (by decide) ?_
  refine W.aloadN d9_67 (pc' := 68) rfl rfl rfl ?_
  refine W.iconst (0 : Int32) d9_68 (pc' := 69) rfl rfl ?_
  refine W.pulls ((t, (ShTS Z (.ref sl) (.ref ix) (.ref il) (.ref rv) (.int (1 : Int32)) (.ref va) (.ref le) (.ref ss) (.int (1 : Int32)) (.int (1 : Int32)) .null (.int (0 : Int32)) (.int (0 : Int32)) (.int (0 : Int32)))) :: (va, (IA Z .int (a :: List.replicate 15 0))) :: (tu, (IA Z .int [b])) :: (sl, (IA Z .int (own_one (own_s a)))) :: (rv, (IA Z .int (List.replicate 16 0))) :: (le, (LA Z ((0 : Int64) :: List.replicate 15 0))) :: (ss, (IA Z .byte (List.replicate 16 0))) :: (il, (ShAL Z (.int (0 : Int32)) dv (.int (0 : Int32)))) :: F) [7, 4, 2] rfl ?_
  refine W.callP 0 rfl (mEq l Z n0 a0 hw ((sl, (IA Z .int (own_one (own_s a)))) :: (rv, (IA Z .int (List.replicate 16 0))) :: (le, (LA Z ((0 : Int64) :: List.replicate 15 0))) :: (ss, (IA Z .byte (List.replicate 16 0))) :: (il, (ShAL Z (.int (0 : Int32)) dv (.int (0 : Int32)))) :: F) t va tu (.ref sl) (.ref ix) (.ref il) (.ref rv) (.ref va) (.ref le) (.ref ss) (.int (1 : Int32)) (.int (1 : Int32)) .null (.int (0 : Int32)) (.int (0 : Int32)) (.int (0 : Int32)) (a :: List.replicate 15 0) a b rfl) d9_69 (wd hw 175 rfl) (wd hw 176 rfl) (wd hw 177 rfl) (wd hw 1 rfl) (wd hw 2 rfl) (wd hw 178 rfl) (by decide) pd7 rfl rfl (Nat.le_of_ble_eq_true rfl) (Nat.le_of_ble_eq_true rfl) (Nat.le_of_ble_eq_true rfl) (Nat.le_of_ble_eq_true rfl) rfl (pc' := 72) rfl ?_
  intro v9 s9 q9
  rw [q9.1, q9.2]
  clear q9 v9 s9
  show W _ _ _ _ _ _ 0 0 ((t, (ShTS Z (.ref sl) (.ref ix) (.ref il) (.ref rv) (.int (1 : Int32)) (.ref va) (.ref le) (.ref ss) (.int (1 : Int32)) (.int (1 : Int32)) .null (.int (0 : Int32)) (.int (0 : Int32)) (.int (0 : Int32)))) :: (va, (IA Z .int (a :: List.replicate 15 0))) :: (tu, (IA Z .int [b])) :: (sl, (IA Z .int (own_one (own_s a)))) :: (rv, (IA Z .int (List.replicate 16 0))) :: (le, (LA Z ((0 : Int64) :: List.replicate 15 0))) :: (ss, (IA Z .byte (List.replicate 16 0))) :: (il, (ShAL Z (.int (0 : Int32)) dv (.int (0 : Int32)))) :: F) 72 #[.val (.ref t), .val (.ref tu), .val (.long (0 : Int64)), .second, .val (.int (31 : Int32)), .val (.int (Int32.ofNat (own_s b))), .unset, .unset, .unset] [(.int (if a = b then 1 else 0))]
  refine W.ifN d9_72 (XT.i0_eq_f (by rw [if_pos hab]; decide)) (pc' := 75) rfl ?_
  refine W.iconst (0 : Int32) d9_75 (pc' := 76) rfl rfl ?_
  refine W.pulls ((t, (ShTS Z (.ref sl) (.ref ix) (.ref il) (.ref rv) (.int (1 : Int32)) (.ref va) (.ref le) (.ref ss) (.int (1 : Int32)) (.int (1 : Int32)) .null (.int (0 : Int32)) (.int (0 : Int32)) (.int (0 : Int32)))) :: (sl, (IA Z .int (own_one (own_s a)))) :: (rv, (IA Z .int (List.replicate 16 0))) :: (va, (IA Z .int (a :: List.replicate 15 0))) :: (le, (LA Z ((0 : Int64) :: List.replicate 15 0))) :: (ss, (IA Z .byte (List.replicate 16 0))) :: (il, (ShAL Z (.int (0 : Int32)) dv (.int (0 : Int32)))) :: (tu, (IA Z .int [b])) :: F) [7, 7, 7, 4, 7, 7, 6] rfl ?_
  exact W.retN (t := .boolean) 0 d9_76 rfl (by simp) rfl (by decide) (by decide) ⟨rfl, rfl⟩
theorem pn_mAddN : plainFor (⟨"com/example/mendb/mendb/TupleStore", "add", "([IJ)Z"⟩ : MethodName) = true := by first | (refine plainFor_of_name ?_; simp [plainName, overriddenIn]; done) | (refine plainFor_of_name ?_; decide +kernel) | decide +kernel
set_option maxRecDepth 65536 in
set_option maxHeartbeats 40000000 in
theorem mAddN (l : Launch) (Z : State) (n0 : Nat) (a0 : Array Value) (hw : ∀ d ∈ tables_1, d.before a0 Z = true) (F : Asn) (dv : Value) (hdr : dv.isRef = true) (t sl ix il rv va le ss : Addr) (tu : Addr) (a b : Int32) (hab : ¬ a = b) : Sp l Z n0 (⟨"com/example/mendb/mendb/TupleStore", "add", "([IJ)Z"⟩ : MethodName) prog_126_method_22_code 9 (some .boolean) ({ frames := 3, cells := 1, slots := 4, locals := 80 } : Room) [(.ref t), (.ref tu), (.long (0 : Int64))] ((t, (ShTS Z (.ref sl) (.ref ix) (.ref il) (.ref rv) (.int (1 : Int32)) (.ref va) (.ref le) (.ref ss) (.int (1 : Int32)) (.int (1 : Int32)) .null (.int (0 : Int32)) (.int (0 : Int32)) (.int (0 : Int32)))) :: (sl, (IA Z .int (own_one (own_s a)))) :: (rv, (IA Z .int (List.replicate 16 0))) :: (va, (IA Z .int (a :: List.replicate 15 0))) :: (le, (LA Z ((0 : Int64) :: List.replicate 15 0))) :: (ss, (IA Z .byte (List.replicate 16 0))) :: (il, (ShAL Z (.int (0 : Int32)) dv (.int (0 : Int32)))) :: (tu, (IA Z .int [b])) :: F) (Ret (some (.int 1)) ((t, (ShTS Z (.ref sl) (.ref ix) (.ref il) (.ref rv) (.int (1 : Int32)) (.ref va) (.ref le) (.ref ss) (.int (2 : Int32)) (.int (2 : Int32)) .null (.int (0 : Int32)) (.int (0 : Int32)) (.int (0 : Int32)))) :: (sl, (IA Z .int (own_two (own_s a) (own_pb a b)))) :: (rv, (IA Z .int (List.replicate 16 0))) :: (va, (IA Z .int (a :: b :: List.replicate 14 0))) :: (le, (LA Z ((0 : Int64) :: (0 : Int64) :: List.replicate 14 0))) :: (ss, (IA Z .byte (List.replicate 16 0))) :: (il, (ShAL Z (.int (0 : Int32)) dv (.int (0 : Int32)))) :: (tu, (IA Z .int [b])) :: F)) := by
  refine Sp.of (ls := #[.val (.ref t), .val (.ref tu), .val (.long (0 : Int64)), .second, .unset, .unset, .unset, .unset, .unset]) pn_mAddN (fun m => by first | (simp [entryFrame, mkF, argsToLocals, Value.category]; done) | rfl) ?_
  show W _ _ _ _ _ _ 0 0 ((t, (ShTS Z (.ref sl) (.ref ix) (.ref il) (.ref rv) (.int (1 : Int32)) (.ref va) (.ref le) (.ref ss) (.int (1 : Int32)) (.int (1 : Int32)) .null (.int (0 : Int32)) (.int (0 : Int32)) (.int (0 : Int32)))) :: (sl, (IA Z .int (own_one (own_s a)))) :: (rv, (IA Z .int (List.replicate 16 0))) :: (va, (IA Z .int (a :: List.replicate 15 0))) :: (le, (LA Z ((0 : Int64) :: List.replicate 15 0))) :: (ss, (IA Z .byte (List.replicate 16 0))) :: (il, (ShAL Z (.int (0 : Int32)) dv (.int (0 : Int32)))) :: (tu, (IA Z .int [b])) :: F) 0 #[.val (.ref t), .val (.ref tu), .val (.long (0 : Int64)), .second, .unset, .unset, .unset, .unset, .unset] []
  refine W.aloadN d9_0 (pc' := 1) rfl rfl rfl ?_
  refine W.getF 0 8 d9_1 (host := "") (Or.inl (wd hw 78 rfl)) Via.refl rfl rfl (pc' := 4) rfl ?_
  refine W.iconst (1 : Int32) d9_4 (pc' := 5) rfl rfl ?_
  refine W.iadd d9_5 (pc' := 6) rfl ?_
  refine W.topI (2 : Int32) (by decide) ?_
  refine W.iconst (2 : Int32) d9_6 (pc' := 7) rfl rfl ?_
  refine W.imul d9_7 (pc' := 8) rfl ?_
  refine W.topI (4 : Int32) (by decide) ?_
  refine W.aloadN d9_8 (pc' := 9) rfl rfl rfl ?_
  refine W.getF 0 0 d9_9 (host := "") (Or.inl (wd hw 10 rfl)) Via.refl rfl rfl (pc' := 12) rfl ?_
  refine W.len 1 (32 : Int32) d9_12 rfl (by rw [own_one_len]; rfl) (pc' := 13) rfl ?_
  refine W.icmpY d9_13 (by decide) (by decide) (pc' := 27) rfl ?_
  refine W.aloadN d9_27 (pc' := 28) rfl rfl rfl ?_
  refine W.getF 0 0 d9_28 (host := "") (Or.inl (wd hw 10 rfl)) Via.refl rfl rfl (pc' := 31) rfl ?_
  refine W.len 1 (32 : Int32) d9_31 rfl (by rw [own_one_len]; rfl) (pc' := 32) rfl ?_
  refine W.iconst (1 : Int32) d9_32 (pc' := 33) rfl rfl ?_
  refine W.isub d9_33 (pc' := 34) rfl ?_
  refine W.topI (31 : Int32) (by decide) ?_
  refine W.istore #[.val (.ref t), .val (.ref tu), .val (.long (0 : Int64)), .second, .val (.int (31 : Int32)), .unset, .unset, .unset, .unset] d9_34 (pc' := 36) rfl rfl ?_
  refine W.aloadN d9_36 (pc' := 37) rfl rfl rfl ?_
  refine W.aloadN d9_37 (pc' := 38) rfl rfl rfl ?_
  refine W.iconst (0 : Int32) d9_38 (pc' := 39) rfl rfl ?_
  refine W.pulls ((t, (ShTS Z (.ref sl) (.ref ix) (.ref il) (.ref rv) (.int (1 : Int32)) (.ref va) (.ref le) (.ref ss) (.int (1 : Int32)) (.int (1 : Int32)) .null (.int (0 : Int32)) (.int (0 : Int32)) (.int (0 : Int32)))) :: (tu, (IA Z .int [b])) :: (sl, (IA Z .int (own_one (own_s a)))) :: (rv, (IA Z .int (List.replicate 16 0))) :: (va, (IA Z .int (a :: List.replicate 15 0))) :: (le, (LA Z ((0 : Int64) :: List.replicate 15 0))) :: (ss, (IA Z .byte (List.replicate 16 0))) :: (il, (ShAL Z (.int (0 : Int32)) dv (.int (0 : Int32)))) :: F) [7, 1] rfl ?_
  refine W.callP 0 rfl (mHash0 l Z n0 a0 hw ((sl, (IA Z .int (own_one (own_s a)))) :: (rv, (IA Z .int (List.replicate 16 0))) :: (va, (IA Z .int (a :: List.replicate 15 0))) :: (le, (LA Z ((0 : Int64) :: List.replicate 15 0))) :: (ss, (IA Z .byte (List.replicate 16 0))) :: (il, (ShAL Z (.int (0 : Int32)) dv (.int (0 : Int32)))) :: F) t tu (.ref sl) (.ref ix) (.ref il) (.ref rv) (.ref va) (.ref le) (.ref ss) (.int (1 : Int32)) (.int (1 : Int32)) .null (.int (0 : Int32)) (.int (0 : Int32)) (.int (0 : Int32)) [b] b rfl) d9_39 (wd hw 80 rfl) (wd hw 81 rfl) (wd hw 82 rfl) (wd hw 1 rfl) (wd hw 2 rfl) (wd hw 83 rfl) (by decide) pd6 rfl rfl (Nat.le_of_ble_eq_true rfl) (Nat.le_of_ble_eq_true rfl) (Nat.le_of_ble_eq_true rfl) (Nat.le_of_ble_eq_true rfl) rfl (pc' := 42) rfl ?_
  intro v9 s9 q9
  rw [q9.1, q9.2]
  clear q9 v9 s9
  show W _ _ _ _ _ _ 0 0 ((t, (ShTS Z (.ref sl) (.ref ix) (.ref il) (.ref rv) (.int (1 : Int32)) (.ref va) (.ref le) (.ref ss) (.int (1 : Int32)) (.int (1 : Int32)) .null (.int (0 : Int32)) (.int (0 : Int32)) (.int (0 : Int32)))) :: (tu, (IA Z .int [b])) :: (sl, (IA Z .int (own_one (own_s a)))) :: (rv, (IA Z .int (List.replicate 16 0))) :: (va, (IA Z .int (a :: List.replicate 15 0))) :: (le, (LA Z ((0 : Int64) :: List.replicate 15 0))) :: (ss, (IA Z .byte (List.replicate 16 0))) :: (il, (ShAL Z (.int (0 : Int32)) dv (.int (0 : Int32)))) :: F) 42 #[.val (.ref t), .val (.ref tu), .val (.long (0 : Int64)), .second, .val (.int (31 : Int32)), .unset, .unset, .unset, .unset] [(.int (own_h b))]
  refine W.iload d9_42 (pc' := 44) rfl rfl ?_
  refine W.iand d9_44 (pc' := 45) rfl ?_
  refine W.topI (Int32.ofNat (own_s b)) (own_slot b) ?_
  refine W.pulls ((t, (ShTS Z (.ref sl) (.ref ix) (.ref il) (.ref rv) (.int (1 : Int32)) (.ref va) (.ref le) (.ref ss) (.int (1 : Int32)) (.int (1 : Int32)) .null (.int (0 : Int32)) (.int (0 : Int32)) (.int (0 : Int32)))) :: (sl, (IA Z .int (own_one (own_s a)))) :: (rv, (IA Z .int (List.replicate 16 0))) :: (va, (IA Z .int (a :: List.replicate 15 0))) :: (le, (LA Z ((0 : Int64) :: List.replicate 15 0))) :: (ss, (IA Z .byte (List.replicate 16 0))) :: (il, (ShAL Z (.int (0 : Int32)) dv (.int (0 : Int32)))) :: (tu, (IA Z .int [b])) :: F) [7, 7, 7, 7, 7, 7, 6] rfl ?_
  refine W.istore #[.val (.ref t), .val (.ref tu), .val (.long (0 : Int64)), .second, .val (.int (31 : Int32)), .val (.int (Int32.ofNat (own_s b))), .unset, .unset, .unset] d9_45 (pc' := 47) rfl rfl ?_
  refine W.aloadN d9_47 (pc' := 48) rfl rfl rfl ?_
  refine W.getF 0 0 d9_48 (host := "") (Or.inl (wd hw 10 rfl)) Via.refl rfl rfl (pc' := 51) rfl ?_
  refine W.iload d9_51 (pc' := 53) rfl rfl ?_
  by_cases hs : own_s b = own_s a
  · refine W.iaload 1 (own_s b) (x := 1) d9_53 rfl (own_nn (own_s_lt b)) (own_tn (own_s_lt b)) (by rw [own_one_at (own_s_lt b), if_pos hs.symm]) (pc' := 54) rfl ?_
    refine W.ifN d9_54 (by decide) (pc' := 57) rfl ?_
    refine W.aloadN d9_57 (pc' := 58) rfl rfl rfl ?_
    refine W.aloadN d9_58 (pc' := 59) rfl rfl rfl ?_
    refine W.getF 0 0 d9_59 (host := "") (Or.inl (wd hw 10 rfl)) Via.refl rfl rfl (pc' := 62) rfl ?_
    refine W.iload d9_62 (pc' := 64) rfl rfl ?_
    refine W.iaload 1 (own_s b) (x := 1) d9_64 rfl (own_nn (own_s_lt b)) (own_tn (own_s_lt b)) (by rw [own_one_at (own_s_lt b), if_pos hs.symm]) (pc' := 65) rfl ?_
    refine W.iconst (1 : Int32) d9_65 (pc' := 66) rfl rfl ?_
    refine W.isub d9_66 (pc' := 67) rfl ?_
    refine W.topI (0 : Int32) (by decide) ?_
    refine W.aloadN d9_67 (pc' := 68) rfl rfl rfl ?_
    refine W.iconst (0 : Int32) d9_68 (pc' := 69) rfl rfl ?_
    refine W.pulls ((t, (ShTS Z (.ref sl) (.ref ix) (.ref il) (.ref rv) (.int (1 : Int32)) (.ref va) (.ref le) (.ref ss) (.int (1 : Int32)) (.int (1 : Int32)) .null (.int (0 : Int32)) (.int (0 : Int32)) (.int (0 : Int32)))) :: (va, (IA Z .int (a :: List.replicate 15 0))) :: (tu, (IA Z .int [b])) :: (sl, (IA Z .int (own_one (own_s a)))) :: (rv, (IA Z .int (List.replicate 16 0))) :: (le, (LA Z ((0 : Int64) :: List.replicate 15 0))) :: (ss, (IA Z .byte (List.replicate 16 0))) :: (il, (ShAL Z (.int (0 : Int32)) dv (.int (0 : Int32)))) :: F) [7, 4, 2] rfl ?_
    refine W.callP 0 rfl (mEq l Z n0 a0 hw ((sl, (IA Z .int (own_one (own_s a)))) :: (rv, (IA Z .int (List.replicate 16 0))) :: (le, (LA Z ((0 : Int64) :: List.replicate 15 0))) :: (ss, (IA Z .byte (List.replicate 16 0))) :: (il, (ShAL Z (.int (0 : Int32)) dv (.int (0 : Int32)))) :: F) t va tu (.ref sl) (.ref ix) (.ref il) (.ref rv) (.ref va) (.ref le) (.ref ss) (.int (1 : Int32)) (.int (1 : Int32)) .null (.int (0 : Int32)) (.int (0 : Int32)) (.int (0 : Int32)) (a :: List.replicate 15 0) a b rfl) d9_69 (wd hw 175 rfl) (wd hw 176 rfl) (wd hw 177 rfl) (wd hw 1 rfl) (wd hw 2 rfl) (wd hw 178 rfl) (by decide) pd7 rfl rfl (Nat.le_of_ble_eq_true rfl) (Nat.le_of_ble_eq_true rfl) (Nat.le_of_ble_eq_true rfl) (Nat.le_of_ble_eq_true rfl) rfl (pc' := 72) rfl ?_
    intro v9 s9 q9
    rw [q9.1, q9.2]
    clear q9 v9 s9
    show W _ _ _ _ _ _ 0 0 ((t, (ShTS Z (.ref sl) (.ref ix) (.ref il) (.ref rv) (.int (1 : Int32)) (.ref va) (.ref le) (.ref ss) (.int (1 : Int32)) (.int (1 : Int32)) .null (.int (0 : Int32)) (.int (0 : Int32)) (.int (0 : Int32)))) :: (va, (IA Z .int (a :: List.replicate 15 0))) :: (tu, (IA Z .int [b])) :: (sl, (IA Z .int (own_one (own_s a)))) :: (rv, (IA Z .int (List.replicate 16 0))) :: (le, (LA Z ((0 : Int64) :: List.replicate 15 0))) :: (ss, (IA Z .byte (List.replicate 16 0))) :: (il, (ShAL Z (.int (0 : Int32)) dv (.int (0 : Int32)))) :: F) 72 #[.val (.ref t), .val (.ref tu), .val (.long (0 : Int64)), .second, .val (.int (31 : Int32)), .val (.int (Int32.ofNat (own_s b))), .unset, .unset, .unset] [(.int (if a = b then 1 else 0))]
    refine W.ifY d9_72 (XT.i0_eq_t (by rw [if_neg hab])) (by decide) (pc' := 77) rfl ?_
    refine W.pulls ((t, (ShTS Z (.ref sl) (.ref ix) (.ref il) (.ref rv) (.int (1 : Int32)) (.ref va) (.ref le) (.ref ss) (.int (1 : Int32)) (.int (1 : Int32)) .null (.int (0 : Int32)) (.int (0 : Int32)) (.int (0 : Int32)))) :: (sl, (IA Z .int (own_one (own_s a)))) :: (rv, (IA Z .int (List.replicate 16 0))) :: (va, (IA Z .int (a :: List.replicate 15 0))) :: (le, (LA Z ((0 : Int64) :: List.replicate 15 0))) :: (ss, (IA Z .byte (List.replicate 16 0))) :: (il, (ShAL Z (.int (0 : Int32)) dv (.int (0 : Int32)))) :: (tu, (IA Z .int [b])) :: F) [7, 7, 7, 4, 7, 7, 6] rfl ?_
    refine W.iload d9_77 (pc' := 79) rfl rfl ?_
    refine W.iconst (1 : Int32) d9_79 (pc' := 80) rfl rfl ?_
    refine W.iadd d9_80 (pc' := 81) rfl ?_
    refine W.iload d9_81 (pc' := 83) rfl rfl ?_
    refine W.iand d9_83 (pc' := 84) rfl ?_
    refine W.topI (Int32.ofNat ((own_s b + 1) % 32)) (own_inc (own_s_lt b)) ?_
    have hq : (own_s b + 1) % 32 < 32 := Nat.mod_lt _ (by decide)
    refine W.istore #[.val (.ref t), .val (.ref tu), .val (.long (0 : Int64)), .second, .val (.int (31 : Int32)), .val (.int (Int32.ofNat ((own_s b + 1) % 32))), .unset, .unset, .unset] d9_84 (pc' := 86) rfl rfl ?_
    refine W.goto d9_86 (pc' := 47) (by decide) rfl ?_
    refine W.aloadN d9_47 (pc' := 48) rfl rfl rfl ?_
    refine W.getF 0 0 d9_48 (host := "") (Or.inl (wd hw 10 rfl)) Via.refl rfl rfl (pc' := 51) rfl ?_
    refine W.iload d9_51 (pc' := 53) rfl rfl ?_
    refine W.iaload 1 ((own_s b + 1) % 32) (x := 0) d9_53 rfl (own_nn hq) (own_tn hq) (by rw [own_one_at hq, if_neg (by have := own_s_lt a; omega)]) (pc' := 54) rfl ?_
    refine W.ifY d9_54 (by decide) (by decide) (pc' := 89) rfl ?_
    have q := addT1 l Z n0 a0 hw F dv hdr t sl ix il rv va le ss tu b a (own_one (own_s a)) ((own_s b + 1) % 32) (own_one_len _) hq
    have e : (own_one (own_s a)).set ((own_s b + 1) % 32) 2 = own_two (own_s a) (own_pb a b) := by unfold own_pb; rw [if_pos hs, hs]; rfl
    rw [e] at q
    exact q
  · refine W.iaload 1 (own_s b) (x := 0) d9_53 rfl (own_nn (own_s_lt b)) (own_tn (own_s_lt b)) (by rw [own_one_at (own_s_lt b), if_neg (fun z => hs z.symm)]) (pc' := 54) rfl ?_
    refine W.ifY d9_54 (by decide) (by decide) (pc' := 89) rfl ?_
    have q := addT1 l Z n0 a0 hw F dv hdr t sl ix il rv va le ss tu b a (own_one (own_s a)) (own_s b) (own_one_len _) (own_s_lt b)
    have e : (own_one (own_s a)).set (own_s b) 2 = own_two (own_s a) (own_pb a b) := by unfold own_pb; rw [if_neg hs]; rfl
    rw [e] at q
    exact q
theorem pn_mA0 : plainFor (⟨"com/example/mendb/mendb/TupleStore", "add", "([I)Z"⟩ : MethodName) = true := by first | (refine plainFor_of_name ?_; simp [plainName, overriddenIn]; done) | (refine plainFor_of_name ?_; decide +kernel) | decide +kernel
set_option maxRecDepth 65536 in
set_option maxHeartbeats 40000000 in
theorem mA0 (l : Launch) (Z : State) (n0 : Nat) (a0 : Array Value) (hw : ∀ d ∈ tables_1, d.before a0 Z = true) (F : Asn) (dv : Value) (hdr : dv.isRef = true) (t sl ix il rv va le ss : Addr) (tu : Addr) (a : Int32) : Sp l Z n0 (⟨"com/example/mendb/mendb/TupleStore", "add", "([I)Z"⟩ : MethodName) prog_126_method_21_code 2 (some .boolean) ({ frames := 4, cells := 1, slots := 4, locals := 100 } : Room) [(.ref t), (.ref tu)] ((t, (ShTS Z (.ref sl) (.ref ix) (.ref il) (.ref rv) (.int (1 : Int32)) (.ref va) (.ref le) (.ref ss) (.int (0 : Int32)) (.int (0 : Int32)) .null (.int (0 : Int32)) (.int (0 : Int32)) (.int (0 : Int32)))) :: (sl, (IA Z .int (List.replicate 32 0))) :: (rv, (IA Z .int (List.replicate 16 0))) :: (va, (IA Z .int (List.replicate 16 0))) :: (le, (LA Z (List.replicate 16 0))) :: (ss, (IA Z .byte (List.replicate 16 0))) :: (il, (ShAL Z (.int (0 : Int32)) dv (.int (0 : Int32)))) :: (tu, (IA Z .int [a])) :: F) (Ret (some (.int 1)) ((t, (ShTS Z (.ref sl) (.ref ix) (.ref il) (.ref rv) (.int (1 : Int32)) (.ref va) (.ref le) (.ref ss) (.int (1 : Int32)) (.int (1 : Int32)) .null (.int (0 : Int32)) (.int (0 : Int32)) (.int (0 : Int32)))) :: (sl, (IA Z .int (own_one (own_s a)))) :: (rv, (IA Z .int (List.replicate 16 0))) :: (va, (IA Z .int (a :: List.replicate 15 0))) :: (le, (LA Z ((0 : Int64) :: List.replicate 15 0))) :: (ss, (IA Z .byte (List.replicate 16 0))) :: (il, (ShAL Z (.int (0 : Int32)) dv (.int (0 : Int32)))) :: (tu, (IA Z .int [a])) :: F)) := by
  refine Sp.of (ls := #[.val (.ref t), .val (.ref tu)]) pn_mA0 (fun m => by first | (simp [entryFrame, mkF, argsToLocals, Value.category]; done) | rfl) ?_
  show W _ _ _ _ _ _ 0 0 ((t, (ShTS Z (.ref sl) (.ref ix) (.ref il) (.ref rv) (.int (1 : Int32)) (.ref va) (.ref le) (.ref ss) (.int (0 : Int32)) (.int (0 : Int32)) .null (.int (0 : Int32)) (.int (0 : Int32)) (.int (0 : Int32)))) :: (sl, (IA Z .int (List.replicate 32 0))) :: (rv, (IA Z .int (List.replicate 16 0))) :: (va, (IA Z .int (List.replicate 16 0))) :: (le, (LA Z (List.replicate 16 0))) :: (ss, (IA Z .byte (List.replicate 16 0))) :: (il, (ShAL Z (.int (0 : Int32)) dv (.int (0 : Int32)))) :: (tu, (IA Z .int [a])) :: F) 0 #[.val (.ref t), .val (.ref tu)] []
  refine W.aloadN d8_0 (pc' := 1) rfl rfl rfl ?_
  refine W.aloadN d8_1 (pc' := 2) rfl rfl rfl ?_
  refine W.lconst (0 : Int64) d8_2 (pc' := 3) rfl rfl ?_
  refine W.callV 0 rfl (mAdd0 l Z n0 a0 hw F dv hdr t sl ix il rv va le ss tu a) d8_3 (wd hw 73 rfl) (wd hw 74 rfl) (wd hw 76 rfl) (wd hw 75 rfl) (wd hw 2 rfl) (wd hw 77 rfl) rfl (by decide) pd8 rfl rfl (Nat.le_of_ble_eq_true rfl) (Nat.le_of_ble_eq_true rfl) (Nat.le_of_ble_eq_true rfl) (Nat.le_of_ble_eq_true rfl) rfl (pc' := 6) rfl ?_
  intro v9 s9 q9
  rw [q9.1, q9.2]
  clear q9 v9 s9
  show W _ _ _ _ _ _ 1 4 ((t, (ShTS Z (.ref sl) (.ref ix) (.ref il) (.ref rv) (.int (1 : Int32)) (.ref va) (.ref le) (.ref ss) (.int (1 : Int32)) (.int (1 : Int32)) .null (.int (0 : Int32)) (.int (0 : Int32)) (.int (0 : Int32)))) :: (sl, (IA Z .int (own_one (own_s a)))) :: (rv, (IA Z .int (List.replicate 16 0))) :: (va, (IA Z .int (a :: List.replicate 15 0))) :: (le, (LA Z ((0 : Int64) :: List.replicate 15 0))) :: (ss, (IA Z .byte (List.replicate 16 0))) :: (il, (ShAL Z (.int (0 : Int32)) dv (.int (0 : Int32)))) :: (tu, (IA Z .int [a])) :: F) 6 #[.val (.ref t), .val (.ref tu)] [(.int (1 : Int32))]
  exact W.retN (t := .boolean) 1 d8_6 rfl (by simp) rfl (by decide) (by decide) ⟨rfl, rfl⟩
theorem pn_mAE : plainFor (⟨"com/example/mendb/mendb/TupleStore", "add", "([I)Z"⟩ : MethodName) = true := by first | (refine plainFor_of_name ?_; simp [plainName, overriddenIn]; done) | (refine plainFor_of_name ?_; decide +kernel) | decide +kernel
set_option maxRecDepth 65536 in
set_option maxHeartbeats 40000000 in
theorem mAE (l : Launch) (Z : State) (n0 : Nat) (a0 : Array Value) (hw : ∀ d ∈ tables_1, d.before a0 Z = true) (F : Asn) (dv : Value) (hdr : dv.isRef = true) (t sl ix il rv va le ss : Addr) (tu : Addr) (a b : Int32) (hab : a = b) : Sp l Z n0 (⟨"com/example/mendb/mendb/TupleStore", "add", "([I)Z"⟩ : MethodName) prog_126_method_21_code 2 (some .boolean) ({ frames := 4, cells := 1, slots := 4, locals := 100 } : Room) [(.ref t), (.ref tu)] ((t, (ShTS Z (.ref sl) (.ref ix) (.ref il) (.ref rv) (.int (1 : Int32)) (.ref va) (.ref le) (.ref ss) (.int (1 : Int32)) (.int (1 : Int32)) .null (.int (0 : Int32)) (.int (0 : Int32)) (.int (0 : Int32)))) :: (sl, (IA Z .int (own_one (own_s a)))) :: (rv, (IA Z .int (List.replicate 16 0))) :: (va, (IA Z .int (a :: List.replicate 15 0))) :: (le, (LA Z ((0 : Int64) :: List.replicate 15 0))) :: (ss, (IA Z .byte (List.replicate 16 0))) :: (il, (ShAL Z (.int (0 : Int32)) dv (.int (0 : Int32)))) :: (tu, (IA Z .int [b])) :: F) (Ret (some (.int 0)) ((t, (ShTS Z (.ref sl) (.ref ix) (.ref il) (.ref rv) (.int (1 : Int32)) (.ref va) (.ref le) (.ref ss) (.int (1 : Int32)) (.int (1 : Int32)) .null (.int (0 : Int32)) (.int (0 : Int32)) (.int (0 : Int32)))) :: (sl, (IA Z .int (own_one (own_s a)))) :: (rv, (IA Z .int (List.replicate 16 0))) :: (va, (IA Z .int (a :: List.replicate 15 0))) :: (le, (LA Z ((0 : Int64) :: List.replicate 15 0))) :: (ss, (IA Z .byte (List.replicate 16 0))) :: (il, (ShAL Z (.int (0 : Int32)) dv (.int (0 : Int32)))) :: (tu, (IA Z .int [b])) :: F)) := by
  refine Sp.of (ls := #[.val (.ref t), .val (.ref tu)]) pn_mAE (fun m => by first | (simp [entryFrame, mkF, argsToLocals, Value.category]; done) | rfl) ?_
  show W _ _ _ _ _ _ 0 0 ((t, (ShTS Z (.ref sl) (.ref ix) (.ref il) (.ref rv) (.int (1 : Int32)) (.ref va) (.ref le) (.ref ss) (.int (1 : Int32)) (.int (1 : Int32)) .null (.int (0 : Int32)) (.int (0 : Int32)) (.int (0 : Int32)))) :: (sl, (IA Z .int (own_one (own_s a)))) :: (rv, (IA Z .int (List.replicate 16 0))) :: (va, (IA Z .int (a :: List.replicate 15 0))) :: (le, (LA Z ((0 : Int64) :: List.replicate 15 0))) :: (ss, (IA Z .byte (List.replicate 16 0))) :: (il, (ShAL Z (.int (0 : Int32)) dv (.int (0 : Int32)))) :: (tu, (IA Z .int [b])) :: F) 0 #[.val (.ref t), .val (.ref tu)] []
  refine W.aloadN d8_0 (pc' := 1) rfl rfl rfl ?_
  refine W.aloadN d8_1 (pc' := 2) rfl rfl rfl ?_
  refine W.lconst (0 : Int64) d8_2 (pc' := 3) rfl rfl ?_
  refine W.callV 0 rfl (mAddE l Z n0 a0 hw F dv hdr t sl ix il rv va le ss tu a b hab) d8_3 (wd hw 73 rfl) (wd hw 74 rfl) (wd hw 76 rfl) (wd hw 75 rfl) (wd hw 2 rfl) (wd hw 77 rfl) rfl (by decide) pd8 rfl rfl (Nat.le_of_ble_eq_true rfl) (Nat.le_of_ble_eq_true rfl) (Nat.le_of_ble_eq_true rfl) (Nat.le_of_ble_eq_true rfl) rfl (pc' := 6) rfl ?_
  intro v9 s9 q9
  rw [q9.1, q9.2]
  clear q9 v9 s9
  show W _ _ _ _ _ _ 1 4 ((t, (ShTS Z (.ref sl) (.ref ix) (.ref il) (.ref rv) (.int (1 : Int32)) (.ref va) (.ref le) (.ref ss) (.int (1 : Int32)) (.int (1 : Int32)) .null (.int (0 : Int32)) (.int (0 : Int32)) (.int (0 : Int32)))) :: (sl, (IA Z .int (own_one (own_s a)))) :: (rv, (IA Z .int (List.replicate 16 0))) :: (va, (IA Z .int (a :: List.replicate 15 0))) :: (le, (LA Z ((0 : Int64) :: List.replicate 15 0))) :: (ss, (IA Z .byte (List.replicate 16 0))) :: (il, (ShAL Z (.int (0 : Int32)) dv (.int (0 : Int32)))) :: (tu, (IA Z .int [b])) :: F) 6 #[.val (.ref t), .val (.ref tu)] [(.int (0 : Int32))]
  exact W.retN (t := .boolean) 0 d8_6 rfl (by simp) rfl (by decide) (by decide) ⟨rfl, rfl⟩
theorem pn_mAN : plainFor (⟨"com/example/mendb/mendb/TupleStore", "add", "([I)Z"⟩ : MethodName) = true := by first | (refine plainFor_of_name ?_; simp [plainName, overriddenIn]; done) | (refine plainFor_of_name ?_; decide +kernel) | decide +kernel
set_option maxRecDepth 65536 in
set_option maxHeartbeats 40000000 in
theorem mAN (l : Launch) (Z : State) (n0 : Nat) (a0 : Array Value) (hw : ∀ d ∈ tables_1, d.before a0 Z = true) (F : Asn) (dv : Value) (hdr : dv.isRef = true) (t sl ix il rv va le ss : Addr) (tu : Addr) (a b : Int32) (hab : ¬ a = b) : Sp l Z n0 (⟨"com/example/mendb/mendb/TupleStore", "add", "([I)Z"⟩ : MethodName) prog_126_method_21_code 2 (some .boolean) ({ frames := 4, cells := 1, slots := 4, locals := 100 } : Room) [(.ref t), (.ref tu)] ((t, (ShTS Z (.ref sl) (.ref ix) (.ref il) (.ref rv) (.int (1 : Int32)) (.ref va) (.ref le) (.ref ss) (.int (1 : Int32)) (.int (1 : Int32)) .null (.int (0 : Int32)) (.int (0 : Int32)) (.int (0 : Int32)))) :: (sl, (IA Z .int (own_one (own_s a)))) :: (rv, (IA Z .int (List.replicate 16 0))) :: (va, (IA Z .int (a :: List.replicate 15 0))) :: (le, (LA Z ((0 : Int64) :: List.replicate 15 0))) :: (ss, (IA Z .byte (List.replicate 16 0))) :: (il, (ShAL Z (.int (0 : Int32)) dv (.int (0 : Int32)))) :: (tu, (IA Z .int [b])) :: F) (Ret (some (.int 1)) ((t, (ShTS Z (.ref sl) (.ref ix) (.ref il) (.ref rv) (.int (1 : Int32)) (.ref va) (.ref le) (.ref ss) (.int (2 : Int32)) (.int (2 : Int32)) .null (.int (0 : Int32)) (.int (0 : Int32)) (.int (0 : Int32)))) :: (sl, (IA Z .int (own_two (own_s a) (own_pb a b)))) :: (rv, (IA Z .int (List.replicate 16 0))) :: (va, (IA Z .int (a :: b :: List.replicate 14 0))) :: (le, (LA Z ((0 : Int64) :: (0 : Int64) :: List.replicate 14 0))) :: (ss, (IA Z .byte (List.replicate 16 0))) :: (il, (ShAL Z (.int (0 : Int32)) dv (.int (0 : Int32)))) :: (tu, (IA Z .int [b])) :: F)) := by
  refine Sp.of (ls := #[.val (.ref t), .val (.ref tu)]) pn_mAN (fun m => by first | (simp [entryFrame, mkF, argsToLocals, Value.category]; done) | rfl) ?_
  show W _ _ _ _ _ _ 0 0 ((t, (ShTS Z (.ref sl) (.ref ix) (.ref il) (.ref rv) (.int (1 : Int32)) (.ref va) (.ref le) (.ref ss) (.int (1 : Int32)) (.int (1 : Int32)) .null (.int (0 : Int32)) (.int (0 : Int32)) (.int (0 : Int32)))) :: (sl, (IA Z .int (own_one (own_s a)))) :: (rv, (IA Z .int (List.replicate 16 0))) :: (va, (IA Z .int (a :: List.replicate 15 0))) :: (le, (LA Z ((0 : Int64) :: List.replicate 15 0))) :: (ss, (IA Z .byte (List.replicate 16 0))) :: (il, (ShAL Z (.int (0 : Int32)) dv (.int (0 : Int32)))) :: (tu, (IA Z .int [b])) :: F) 0 #[.val (.ref t), .val (.ref tu)] []
  refine W.aloadN d8_0 (pc' := 1) rfl rfl rfl ?_
  refine W.aloadN d8_1 (pc' := 2) rfl rfl rfl ?_
  refine W.lconst (0 : Int64) d8_2 (pc' := 3) rfl rfl ?_
  refine W.callV 0 rfl (mAddN l Z n0 a0 hw F dv hdr t sl ix il rv va le ss tu a b hab) d8_3 (wd hw 73 rfl) (wd hw 74 rfl) (wd hw 76 rfl) (wd hw 75 rfl) (wd hw 2 rfl) (wd hw 77 rfl) rfl (by decide) pd8 rfl rfl (Nat.le_of_ble_eq_true rfl) (Nat.le_of_ble_eq_true rfl) (Nat.le_of_ble_eq_true rfl) (Nat.le_of_ble_eq_true rfl) rfl (pc' := 6) rfl ?_
  intro v9 s9 q9
  rw [q9.1, q9.2]
  clear q9 v9 s9
  show W _ _ _ _ _ _ 1 4 ((t, (ShTS Z (.ref sl) (.ref ix) (.ref il) (.ref rv) (.int (1 : Int32)) (.ref va) (.ref le) (.ref ss) (.int (2 : Int32)) (.int (2 : Int32)) .null (.int (0 : Int32)) (.int (0 : Int32)) (.int (0 : Int32)))) :: (sl, (IA Z .int (own_two (own_s a) (own_pb a b)))) :: (rv, (IA Z .int (List.replicate 16 0))) :: (va, (IA Z .int (a :: b :: List.replicate 14 0))) :: (le, (LA Z ((0 : Int64) :: (0 : Int64) :: List.replicate 14 0))) :: (ss, (IA Z .byte (List.replicate 16 0))) :: (il, (ShAL Z (.int (0 : Int32)) dv (.int (0 : Int32)))) :: (tu, (IA Z .int [b])) :: F) 6 #[.val (.ref t), .val (.ref tu)] [(.int (1 : Int32))]
  exact W.retN (t := .boolean) 1 d8_6 rfl (by simp) rfl (by decide) (by decide) ⟨rfl, rfl⟩
theorem pn_mBC0 : plainFor (⟨"com/example/mendb/mendb/TupleStore", "beginCommit", "()V"⟩ : MethodName) = true := by first | (refine plainFor_of_name ?_; simp [plainName, overriddenIn]; done) | (refine plainFor_of_name ?_; decide +kernel) | decide +kernel
set_option maxRecDepth 65536 in
set_option maxHeartbeats 40000000 in
theorem mBC0 (l : Launch) (Z : State) (n0 : Nat) (a0 : Array Value) (hw : ∀ d ∈ tables_1, d.before a0 Z = true) (F : Asn) (dv : Value) (hdr : dv.isRef = true) (t sl ix il rv va le ss : Addr) (a : Int32) (xs : List Int32) : Sp l Z n0 (⟨"com/example/mendb/mendb/TupleStore", "beginCommit", "()V"⟩ : MethodName) prog_126_method_26_code 2 none ({ frames := 0, cells := 0, slots := 0, locals := 0 } : Room) [(.ref t)] ((t, (ShTS Z (.ref sl) (.ref ix) (.ref il) (.ref rv) (.int (1 : Int32)) (.ref va) (.ref le) (.ref ss) (.int (1 : Int32)) (.int (1 : Int32)) .null (.int (0 : Int32)) (.int (0 : Int32)) (.int (0 : Int32)))) :: (sl, (IA Z .int xs)) :: (rv, (IA Z .int (List.replicate 16 0))) :: (va, (IA Z .int (a :: List.replicate 15 0))) :: (le, (LA Z ((0 : Int64) :: List.replicate 15 0))) :: (ss, (IA Z .byte (List.replicate 16 0))) :: (il, (ShAL Z (.int (0 : Int32)) dv (.int (0 : Int32)))) :: F) (Ret none ((t, (ShTS Z (.ref sl) (.ref ix) (.ref il) (.ref rv) (.int (1 : Int32)) (.ref va) (.ref le) (.ref ss) (.int (1 : Int32)) (.int (1 : Int32)) .null (.int (0 : Int32)) (.int (1 : Int32)) (.int (1 : Int32)))) :: (sl, (IA Z .int xs)) :: (rv, (IA Z .int (List.replicate 16 0))) :: (va, (IA Z .int (a :: List.replicate 15 0))) :: (le, (LA Z ((0 : Int64) :: List.replicate 15 0))) :: (ss, (IA Z .byte (List.replicate 16 0))) :: (il, (ShAL Z (.int (0 : Int32)) dv (.int (0 : Int32)))) :: F)) := by
  refine Sp.of (ls := #[.val (.ref t), .unset]) pn_mBC0 (fun m => by first | (simp [entryFrame, mkF, argsToLocals, Value.category]; done) | rfl) ?_
  show W _ _ _ _ _ _ 0 0 ((t, (ShTS Z (.ref sl) (.ref ix) (.ref il) (.ref rv) (.int (1 : Int32)) (.ref va) (.ref le) (.ref ss) (.int (1 : Int32)) (.int (1 : Int32)) .null (.int (0 : Int32)) (.int (0 : Int32)) (.int (0 : Int32)))) :: (sl, (IA Z .int xs)) :: (rv, (IA Z .int (List.replicate 16 0))) :: (va, (IA Z .int (a :: List.replicate 15 0))) :: (le, (LA Z ((0 : Int64) :: List.replicate 15 0))) :: (ss, (IA Z .byte (List.replicate 16 0))) :: (il, (ShAL Z (.int (0 : Int32)) dv (.int (0 : Int32)))) :: F) 0 #[.val (.ref t), .unset] []
  refine W.iconst (0 : Int32) d17_0 (pc' := 1) rfl rfl ?_
  refine W.istoreN #[.val (.ref t), .val (.int (0 : Int32))] d17_1 (pc' := 2) rfl rfl ?_
  refine W.iloadN d17_2 (pc' := 3) rfl rfl ?_
  refine W.aloadN d17_3 (pc' := 4) rfl rfl rfl ?_
  refine W.getF 0 11 d17_4 (host := "") (Or.inl (wd hw 144 rfl)) Via.refl rfl rfl (pc' := 7) rfl ?_
  refine W.icmpY d17_7 (by decide) (by decide) (pc' := 28) rfl ?_
  refine W.aloadN d17_28 (pc' := 29) rfl rfl rfl ?_
  refine W.aloadN d17_29 (pc' := 30) rfl rfl rfl ?_
  refine W.getF 0 9 d17_30 (host := "") (Or.inl (wd hw 93 rfl)) Via.refl rfl rfl (pc' := 33) rfl ?_
  refine W.putF ((t, (ShTS Z (.ref sl) (.ref ix) (.ref il) (.ref rv) (.int (1 : Int32)) (.ref va) (.ref le) (.ref ss) (.int (1 : Int32)) (.int (1 : Int32)) .null (.int (0 : Int32)) (.int (1 : Int32)) (.int (0 : Int32)))) :: (sl, (IA Z .int xs)) :: (rv, (IA Z .int (List.replicate 16 0))) :: (va, (IA Z .int (a :: List.replicate 15 0))) :: (le, (LA Z ((0 : Int64) :: List.replicate 15 0))) :: (ss, (IA Z .byte (List.replicate 16 0))) :: (il, (ShAL Z (.int (0 : Int32)) dv (.int (0 : Int32)))) :: F) 0 12 d17_33 (host := "") (Or.inl (wd hw 151 rfl)) Via.refl (Or.inl (wd hw 152 rfl)) (wd hw 1 rfl) (ty := .int) (by decide) rfl rfl rfl rfl rfl (pc' := 36) rfl ?_
  refine W.aloadN d17_36 (pc' := 37) rfl rfl rfl ?_
  refine W.iconst (0 : Int32) d17_37 (pc' := 38) rfl rfl ?_
  refine W.putF ((t, (ShTS Z (.ref sl) (.ref ix) (.ref il) (.ref rv) (.int (1 : Int32)) (.ref va) (.ref le) (.ref ss) (.int (1 : Int32)) (.int (1 : Int32)) .null (.int (0 : Int32)) (.int (1 : Int32)) (.int (0 : Int32)))) :: (sl, (IA Z .int xs)) :: (rv, (IA Z .int (List.replicate 16 0))) :: (va, (IA Z .int (a :: List.replicate 15 0))) :: (le, (LA Z ((0 : Int64) :: List.replicate 15 0))) :: (ss, (IA Z .byte (List.replicate 16 0))) :: (il, (ShAL Z (.int (0 : Int32)) dv (.int (0 : Int32)))) :: F) 0 11 d17_38 (host := "") (Or.inl (wd hw 144 rfl)) Via.refl (Or.inl (wd hw 145 rfl)) (wd hw 1 rfl) (ty := .int) (by decide) rfl rfl rfl rfl rfl (pc' := 41) rfl ?_
  refine W.aloadN d17_41 (pc' := 42) rfl rfl rfl ?_
  refine W.aloadN d17_42 (pc' := 43) rfl rfl rfl ?_
  refine W.getF 0 8 d17_43 (host := "") (Or.inl (wd hw 78 rfl)) Via.refl rfl rfl (pc' := 46) rfl ?_
  refine W.putF ((t, (ShTS Z (.ref sl) (.ref ix) (.ref il) (.ref rv) (.int (1 : Int32)) (.ref va) (.ref le) (.ref ss) (.int (1 : Int32)) (.int (1 : Int32)) .null (.int (0 : Int32)) (.int (1 : Int32)) (.int (1 : Int32)))) :: (sl, (IA Z .int xs)) :: (rv, (IA Z .int (List.replicate 16 0))) :: (va, (IA Z .int (a :: List.replicate 15 0))) :: (le, (LA Z ((0 : Int64) :: List.replicate 15 0))) :: (ss, (IA Z .byte (List.replicate 16 0))) :: (il, (ShAL Z (.int (0 : Int32)) dv (.int (0 : Int32)))) :: F) 0 13 d17_46 (host := "") (Or.inl (wd hw 153 rfl)) Via.refl (Or.inl (wd hw 154 rfl)) (wd hw 1 rfl) (ty := .int) (by decide) rfl rfl rfl rfl rfl (pc' := 49) rfl ?_
  exact W.retV d17_49 rfl (by decide) (by decide) ⟨rfl, rfl⟩
theorem pn_mG1 : plainFor (⟨"com/example/mendb/mendb/TupleStore", "state", "(I)B"⟩ : MethodName) = true := by first | (refine plainFor_of_name ?_; simp [plainName, overriddenIn]; done) | (refine plainFor_of_name ?_; decide +kernel) | decide +kernel
set_option maxRecDepth 65536 in
set_option maxHeartbeats 40000000 in
theorem mG1 (l : Launch) (Z : State) (n0 : Nat) (a0 : Array Value) (hw : ∀ d ∈ tables_1, d.before a0 Z = true) (F : Asn) (dv : Value) (hdr : dv.isRef = true) (t sl ix il rv va le ss : Addr) (a : Int32) (xs : List Int32) : Sp l Z n0 (⟨"com/example/mendb/mendb/TupleStore", "state", "(I)B"⟩ : MethodName) prog_126_method_14_code 2 (some .byte) ({ frames := 0, cells := 0, slots := 0, locals := 0 } : Room) [(.ref t), (.int (0 : Int32))] ((t, (ShTS Z (.ref sl) (.ref ix) (.ref il) (.ref rv) (.int (1 : Int32)) (.ref va) (.ref le) (.ref ss) (.int (1 : Int32)) (.int (1 : Int32)) .null (.int (0 : Int32)) (.int (1 : Int32)) (.int (1 : Int32)))) :: (sl, (IA Z .int xs)) :: (rv, (IA Z .int (List.replicate 16 0))) :: (va, (IA Z .int (a :: List.replicate 15 0))) :: (le, (LA Z ((0 : Int64) :: List.replicate 15 0))) :: (ss, (IA Z .byte (List.replicate 16 0))) :: (il, (ShAL Z (.int (0 : Int32)) dv (.int (0 : Int32)))) :: F) (Ret (some (.int 0)) ((t, (ShTS Z (.ref sl) (.ref ix) (.ref il) (.ref rv) (.int (1 : Int32)) (.ref va) (.ref le) (.ref ss) (.int (1 : Int32)) (.int (1 : Int32)) .null (.int (0 : Int32)) (.int (1 : Int32)) (.int (1 : Int32)))) :: (sl, (IA Z .int xs)) :: (rv, (IA Z .int (List.replicate 16 0))) :: (va, (IA Z .int (a :: List.replicate 15 0))) :: (le, (LA Z ((0 : Int64) :: List.replicate 15 0))) :: (ss, (IA Z .byte (List.replicate 16 0))) :: (il, (ShAL Z (.int (0 : Int32)) dv (.int (0 : Int32)))) :: F)) := by
  refine Sp.of (ls := #[.val (.ref t), .val (.int (0 : Int32))]) pn_mG1 (fun m => by first | (simp [entryFrame, mkF, argsToLocals, Value.category]; done) | rfl) ?_
  show W _ _ _ _ _ _ 0 0 ((t, (ShTS Z (.ref sl) (.ref ix) (.ref il) (.ref rv) (.int (1 : Int32)) (.ref va) (.ref le) (.ref ss) (.int (1 : Int32)) (.int (1 : Int32)) .null (.int (0 : Int32)) (.int (1 : Int32)) (.int (1 : Int32)))) :: (sl, (IA Z .int xs)) :: (rv, (IA Z .int (List.replicate 16 0))) :: (va, (IA Z .int (a :: List.replicate 15 0))) :: (le, (LA Z ((0 : Int64) :: List.replicate 15 0))) :: (ss, (IA Z .byte (List.replicate 16 0))) :: (il, (ShAL Z (.int (0 : Int32)) dv (.int (0 : Int32)))) :: F) 0 #[.val (.ref t), .val (.int (0 : Int32))] []
  refine W.aloadN d18_0 (pc' := 1) rfl rfl rfl ?_
  refine W.getF 0 7 d18_1 (host := "") (Or.inl (wd hw 66 rfl)) Via.refl rfl rfl (pc' := 4) rfl ?_
  refine W.iloadN d18_4 (pc' := 5) rfl rfl ?_
  refine W.baload 5 0 (x := 0) d18_5 rfl (by decide) rfl rfl (pc' := 6) rfl ?_
  exact W.retN (t := .byte) 0 d18_6 rfl (by simp) rfl (by decide) (by decide) ⟨rfl, rfl⟩
theorem pn_mG2 : plainFor (⟨"com/example/mendb/mendb/TupleStore", "firstAdded", "()I"⟩ : MethodName) = true := by first | (refine plainFor_of_name ?_; simp [plainName, overriddenIn]; done) | (refine plainFor_of_name ?_; decide +kernel) | decide +kernel
set_option maxRecDepth 65536 in
set_option maxHeartbeats 40000000 in
theorem mG2 (l : Launch) (Z : State) (n0 : Nat) (a0 : Array Value) (hw : ∀ d ∈ tables_1, d.before a0 Z = true) (F : Asn) (dv : Value) (hdr : dv.isRef = true) (t sl ix il rv va le ss : Addr) (a : Int32) (xs : List Int32) : Sp l Z n0 (⟨"com/example/mendb/mendb/TupleStore", "firstAdded", "()I"⟩ : MethodName) prog_126_method_27_code 1 (some .int) ({ frames := 0, cells := 0, slots := 0, locals := 0 } : Room) [(.ref t)] ((t, (ShTS Z (.ref sl) (.ref ix) (.ref il) (.ref rv) (.int (1 : Int32)) (.ref va) (.ref le) (.ref ss) (.int (1 : Int32)) (.int (1 : Int32)) .null (.int (0 : Int32)) (.int (1 : Int32)) (.int (1 : Int32)))) :: (sl, (IA Z .int xs)) :: (rv, (IA Z .int (List.replicate 16 0))) :: (va, (IA Z .int (a :: List.replicate 15 0))) :: (le, (LA Z ((0 : Int64) :: List.replicate 15 0))) :: (ss, (IA Z .byte (List.replicate 16 0))) :: (il, (ShAL Z (.int (0 : Int32)) dv (.int (0 : Int32)))) :: F) (Ret (some (.int 1)) ((t, (ShTS Z (.ref sl) (.ref ix) (.ref il) (.ref rv) (.int (1 : Int32)) (.ref va) (.ref le) (.ref ss) (.int (1 : Int32)) (.int (1 : Int32)) .null (.int (0 : Int32)) (.int (1 : Int32)) (.int (1 : Int32)))) :: (sl, (IA Z .int xs)) :: (rv, (IA Z .int (List.replicate 16 0))) :: (va, (IA Z .int (a :: List.replicate 15 0))) :: (le, (LA Z ((0 : Int64) :: List.replicate 15 0))) :: (ss, (IA Z .byte (List.replicate 16 0))) :: (il, (ShAL Z (.int (0 : Int32)) dv (.int (0 : Int32)))) :: F)) := by
  refine Sp.of (ls := #[.val (.ref t)]) pn_mG2 (fun m => by first | (simp [entryFrame, mkF, argsToLocals, Value.category]; done) | rfl) ?_
  show W _ _ _ _ _ _ 0 0 ((t, (ShTS Z (.ref sl) (.ref ix) (.ref il) (.ref rv) (.int (1 : Int32)) (.ref va) (.ref le) (.ref ss) (.int (1 : Int32)) (.int (1 : Int32)) .null (.int (0 : Int32)) (.int (1 : Int32)) (.int (1 : Int32)))) :: (sl, (IA Z .int xs)) :: (rv, (IA Z .int (List.replicate 16 0))) :: (va, (IA Z .int (a :: List.replicate 15 0))) :: (le, (LA Z ((0 : Int64) :: List.replicate 15 0))) :: (ss, (IA Z .byte (List.replicate 16 0))) :: (il, (ShAL Z (.int (0 : Int32)) dv (.int (0 : Int32)))) :: F) 0 #[.val (.ref t)] []
  refine W.aloadN d19_0 (pc' := 1) rfl rfl rfl ?_
  refine W.getF 0 12 d19_1 (host := "") (Or.inl (wd hw 151 rfl)) Via.refl rfl rfl (pc' := 4) rfl ?_
  exact W.retI d19_4 rfl (by decide) (by decide) ⟨rfl, rfl⟩
theorem pn_mG3 : plainFor (⟨"com/example/mendb/mendb/TupleStore", "removedCount", "()I"⟩ : MethodName) = true := by first | (refine plainFor_of_name ?_; simp [plainName, overriddenIn]; done) | (refine plainFor_of_name ?_; decide +kernel) | decide +kernel
set_option maxRecDepth 65536 in
set_option maxHeartbeats 40000000 in
theorem mG3 (l : Launch) (Z : State) (n0 : Nat) (a0 : Array Value) (hw : ∀ d ∈ tables_1, d.before a0 Z = true) (F : Asn) (dv : Value) (hdr : dv.isRef = true) (t sl ix il rv va le ss : Addr) (a : Int32) (xs : List Int32) : Sp l Z n0 (⟨"com/example/mendb/mendb/TupleStore", "removedCount", "()I"⟩ : MethodName) prog_126_method_28_code 1 (some .int) ({ frames := 0, cells := 0, slots := 0, locals := 0 } : Room) [(.ref t)] ((t, (ShTS Z (.ref sl) (.ref ix) (.ref il) (.ref rv) (.int (1 : Int32)) (.ref va) (.ref le) (.ref ss) (.int (1 : Int32)) (.int (1 : Int32)) .null (.int (0 : Int32)) (.int (1 : Int32)) (.int (1 : Int32)))) :: (sl, (IA Z .int xs)) :: (rv, (IA Z .int (List.replicate 16 0))) :: (va, (IA Z .int (a :: List.replicate 15 0))) :: (le, (LA Z ((0 : Int64) :: List.replicate 15 0))) :: (ss, (IA Z .byte (List.replicate 16 0))) :: (il, (ShAL Z (.int (0 : Int32)) dv (.int (0 : Int32)))) :: F) (Ret (some (.int 0)) ((t, (ShTS Z (.ref sl) (.ref ix) (.ref il) (.ref rv) (.int (1 : Int32)) (.ref va) (.ref le) (.ref ss) (.int (1 : Int32)) (.int (1 : Int32)) .null (.int (0 : Int32)) (.int (1 : Int32)) (.int (1 : Int32)))) :: (sl, (IA Z .int xs)) :: (rv, (IA Z .int (List.replicate 16 0))) :: (va, (IA Z .int (a :: List.replicate 15 0))) :: (le, (LA Z ((0 : Int64) :: List.replicate 15 0))) :: (ss, (IA Z .byte (List.replicate 16 0))) :: (il, (ShAL Z (.int (0 : Int32)) dv (.int (0 : Int32)))) :: F)) := by
  refine Sp.of (ls := #[.val (.ref t)]) pn_mG3 (fun m => by first | (simp [entryFrame, mkF, argsToLocals, Value.category]; done) | rfl) ?_
  show W _ _ _ _ _ _ 0 0 ((t, (ShTS Z (.ref sl) (.ref ix) (.ref il) (.ref rv) (.int (1 : Int32)) (.ref va) (.ref le) (.ref ss) (.int (1 : Int32)) (.int (1 : Int32)) .null (.int (0 : Int32)) (.int (1 : Int32)) (.int (1 : Int32)))) :: (sl, (IA Z .int xs)) :: (rv, (IA Z .int (List.replicate 16 0))) :: (va, (IA Z .int (a :: List.replicate 15 0))) :: (le, (LA Z ((0 : Int64) :: List.replicate 15 0))) :: (ss, (IA Z .byte (List.replicate 16 0))) :: (il, (ShAL Z (.int (0 : Int32)) dv (.int (0 : Int32)))) :: F) 0 #[.val (.ref t)] []
  refine W.aloadN d20_0 (pc' := 1) rfl rfl rfl ?_
  refine W.getF 0 11 d20_1 (host := "") (Or.inl (wd hw 144 rfl)) Via.refl rfl rfl (pc' := 4) rfl ?_
  exact W.retI d20_4 rfl (by decide) (by decide) ⟨rfl, rfl⟩
theorem pn_mG4 : plainFor (⟨"com/example/mendb/mendb/TupleStore", "countAtStart", "()I"⟩ : MethodName) = true := by first | (refine plainFor_of_name ?_; simp [plainName, overriddenIn]; done) | (refine plainFor_of_name ?_; decide +kernel) | decide +kernel
set_option maxRecDepth 65536 in
set_option maxHeartbeats 40000000 in
theorem mG4 (l : Launch) (Z : State) (n0 : Nat) (a0 : Array Value) (hw : ∀ d ∈ tables_1, d.before a0 Z = true) (F : Asn) (dv : Value) (hdr : dv.isRef = true) (t sl ix il rv va le ss : Addr) (a : Int32) (xs : List Int32) : Sp l Z n0 (⟨"com/example/mendb/mendb/TupleStore", "countAtStart", "()I"⟩ : MethodName) prog_126_method_18_code 1 (some .int) ({ frames := 0, cells := 0, slots := 0, locals := 0 } : Room) [(.ref t)] ((t, (ShTS Z (.ref sl) (.ref ix) (.ref il) (.ref rv) (.int (1 : Int32)) (.ref va) (.ref le) (.ref ss) (.int (1 : Int32)) (.int (1 : Int32)) .null (.int (0 : Int32)) (.int (1 : Int32)) (.int (1 : Int32)))) :: (sl, (IA Z .int xs)) :: (rv, (IA Z .int (List.replicate 16 0))) :: (va, (IA Z .int (a :: List.replicate 15 0))) :: (le, (LA Z ((0 : Int64) :: List.replicate 15 0))) :: (ss, (IA Z .byte (List.replicate 16 0))) :: (il, (ShAL Z (.int (0 : Int32)) dv (.int (0 : Int32)))) :: F) (Ret (some (.int 1)) ((t, (ShTS Z (.ref sl) (.ref ix) (.ref il) (.ref rv) (.int (1 : Int32)) (.ref va) (.ref le) (.ref ss) (.int (1 : Int32)) (.int (1 : Int32)) .null (.int (0 : Int32)) (.int (1 : Int32)) (.int (1 : Int32)))) :: (sl, (IA Z .int xs)) :: (rv, (IA Z .int (List.replicate 16 0))) :: (va, (IA Z .int (a :: List.replicate 15 0))) :: (le, (LA Z ((0 : Int64) :: List.replicate 15 0))) :: (ss, (IA Z .byte (List.replicate 16 0))) :: (il, (ShAL Z (.int (0 : Int32)) dv (.int (0 : Int32)))) :: F)) := by
  refine Sp.of (ls := #[.val (.ref t)]) pn_mG4 (fun m => by first | (simp [entryFrame, mkF, argsToLocals, Value.category]; done) | rfl) ?_
  show W _ _ _ _ _ _ 0 0 ((t, (ShTS Z (.ref sl) (.ref ix) (.ref il) (.ref rv) (.int (1 : Int32)) (.ref va) (.ref le) (.ref ss) (.int (1 : Int32)) (.int (1 : Int32)) .null (.int (0 : Int32)) (.int (1 : Int32)) (.int (1 : Int32)))) :: (sl, (IA Z .int xs)) :: (rv, (IA Z .int (List.replicate 16 0))) :: (va, (IA Z .int (a :: List.replicate 15 0))) :: (le, (LA Z ((0 : Int64) :: List.replicate 15 0))) :: (ss, (IA Z .byte (List.replicate 16 0))) :: (il, (ShAL Z (.int (0 : Int32)) dv (.int (0 : Int32)))) :: F) 0 #[.val (.ref t)] []
  refine W.aloadN d21_0 (pc' := 1) rfl rfl rfl ?_
  refine W.getF 0 13 d21_1 (host := "") (Or.inl (wd hw 153 rfl)) Via.refl rfl rfl (pc' := 4) rfl ?_
  exact W.retI d21_4 rfl (by decide) (by decide) ⟨rfl, rfl⟩
theorem pn_mBC5 : plainFor (⟨"com/example/mendb/mendb/TupleStore", "beginCommit", "()V"⟩ : MethodName) = true := by first | (refine plainFor_of_name ?_; simp [plainName, overriddenIn]; done) | (refine plainFor_of_name ?_; decide +kernel) | decide +kernel
set_option maxRecDepth 65536 in
set_option maxHeartbeats 40000000 in
theorem mBC5 (l : Launch) (Z : State) (n0 : Nat) (a0 : Array Value) (hw : ∀ d ∈ tables_1, d.before a0 Z = true) (F : Asn) (dv : Value) (hdr : dv.isRef = true) (t sl ix il rv va le ss : Addr) (a : Int32) (xs : List Int32) : Sp l Z n0 (⟨"com/example/mendb/mendb/TupleStore", "beginCommit", "()V"⟩ : MethodName) prog_126_method_26_code 2 none ({ frames := 0, cells := 0, slots := 0, locals := 0 } : Room) [(.ref t)] ((t, (ShTS Z (.ref sl) (.ref ix) (.ref il) (.ref rv) (.int (1 : Int32)) (.ref va) (.ref le) (.ref ss) (.int (1 : Int32)) (.int (1 : Int32)) .null (.int (0 : Int32)) (.int (1 : Int32)) (.int (1 : Int32)))) :: (sl, (IA Z .int xs)) :: (rv, (IA Z .int (List.replicate 16 0))) :: (va, (IA Z .int (a :: List.replicate 15 0))) :: (le, (LA Z ((0 : Int64) :: List.replicate 15 0))) :: (ss, (IA Z .byte (List.replicate 16 0))) :: (il, (ShAL Z (.int (0 : Int32)) dv (.int (0 : Int32)))) :: F) (Ret none ((t, (ShTS Z (.ref sl) (.ref ix) (.ref il) (.ref rv) (.int (1 : Int32)) (.ref va) (.ref le) (.ref ss) (.int (1 : Int32)) (.int (1 : Int32)) .null (.int (0 : Int32)) (.int (1 : Int32)) (.int (1 : Int32)))) :: (sl, (IA Z .int xs)) :: (rv, (IA Z .int (List.replicate 16 0))) :: (va, (IA Z .int (a :: List.replicate 15 0))) :: (le, (LA Z ((0 : Int64) :: List.replicate 15 0))) :: (ss, (IA Z .byte (List.replicate 16 0))) :: (il, (ShAL Z (.int (0 : Int32)) dv (.int (0 : Int32)))) :: F)) := by
  refine Sp.of (ls := #[.val (.ref t), .unset]) pn_mBC5 (fun m => by first | (simp [entryFrame, mkF, argsToLocals, Value.category]; done) | rfl) ?_
  show W _ _ _ _ _ _ 0 0 ((t, (ShTS Z (.ref sl) (.ref ix) (.ref il) (.ref rv) (.int (1 : Int32)) (.ref va) (.ref le) (.ref ss) (.int (1 : Int32)) (.int (1 : Int32)) .null (.int (0 : Int32)) (.int (1 : Int32)) (.int (1 : Int32)))) :: (sl, (IA Z .int xs)) :: (rv, (IA Z .int (List.replicate 16 0))) :: (va, (IA Z .int (a :: List.replicate 15 0))) :: (le, (LA Z ((0 : Int64) :: List.replicate 15 0))) :: (ss, (IA Z .byte (List.replicate 16 0))) :: (il, (ShAL Z (.int (0 : Int32)) dv (.int (0 : Int32)))) :: F) 0 #[.val (.ref t), .unset] []
  refine W.iconst (0 : Int32) d17_0 (pc' := 1) rfl rfl ?_
  refine W.istoreN #[.val (.ref t), .val (.int (0 : Int32))] d17_1 (pc' := 2) rfl rfl ?_
  refine W.iloadN d17_2 (pc' := 3) rfl rfl ?_
  refine W.aloadN d17_3 (pc' := 4) rfl rfl rfl ?_
  refine W.getF 0 11 d17_4 (host := "") (Or.inl (wd hw 144 rfl)) Via.refl rfl rfl (pc' := 7) rfl ?_
  refine W.icmpY d17_7 (by decide) (by decide) (pc' := 28) rfl ?_
  refine W.aloadN d17_28 (pc' := 29) rfl rfl rfl ?_
  refine W.aloadN d17_29 (pc' := 30) rfl rfl rfl ?_
  refine W.getF 0 9 d17_30 (host := "") (Or.inl (wd hw 93 rfl)) Via.refl rfl rfl (pc' := 33) rfl ?_
  refine W.putF ((t, (ShTS Z (.ref sl) (.ref ix) (.ref il) (.ref rv) (.int (1 : Int32)) (.ref va) (.ref le) (.ref ss) (.int (1 : Int32)) (.int (1 : Int32)) .null (.int (0 : Int32)) (.int (1 : Int32)) (.int (1 : Int32)))) :: (sl, (IA Z .int xs)) :: (rv, (IA Z .int (List.replicate 16 0))) :: (va, (IA Z .int (a :: List.replicate 15 0))) :: (le, (LA Z ((0 : Int64) :: List.replicate 15 0))) :: (ss, (IA Z .byte (List.replicate 16 0))) :: (il, (ShAL Z (.int (0 : Int32)) dv (.int (0 : Int32)))) :: F) 0 12 d17_33 (host := "") (Or.inl (wd hw 151 rfl)) Via.refl (Or.inl (wd hw 152 rfl)) (wd hw 1 rfl) (ty := .int) (by decide) rfl rfl rfl rfl rfl (pc' := 36) rfl ?_
  refine W.aloadN d17_36 (pc' := 37) rfl rfl rfl ?_
  refine W.iconst (0 : Int32) d17_37 (pc' := 38) rfl rfl ?_
  refine W.putF ((t, (ShTS Z (.ref sl) (.ref ix) (.ref il) (.ref rv) (.int (1 : Int32)) (.ref va) (.ref le) (.ref ss) (.int (1 : Int32)) (.int (1 : Int32)) .null (.int (0 : Int32)) (.int (1 : Int32)) (.int (1 : Int32)))) :: (sl, (IA Z .int xs)) :: (rv, (IA Z .int (List.replicate 16 0))) :: (va, (IA Z .int (a :: List.replicate 15 0))) :: (le, (LA Z ((0 : Int64) :: List.replicate 15 0))) :: (ss, (IA Z .byte (List.replicate 16 0))) :: (il, (ShAL Z (.int (0 : Int32)) dv (.int (0 : Int32)))) :: F) 0 11 d17_38 (host := "") (Or.inl (wd hw 144 rfl)) Via.refl (Or.inl (wd hw 145 rfl)) (wd hw 1 rfl) (ty := .int) (by decide) rfl rfl rfl rfl rfl (pc' := 41) rfl ?_
  refine W.aloadN d17_41 (pc' := 42) rfl rfl rfl ?_
  refine W.aloadN d17_42 (pc' := 43) rfl rfl rfl ?_
  refine W.getF 0 8 d17_43 (host := "") (Or.inl (wd hw 78 rfl)) Via.refl rfl rfl (pc' := 46) rfl ?_
  refine W.putF ((t, (ShTS Z (.ref sl) (.ref ix) (.ref il) (.ref rv) (.int (1 : Int32)) (.ref va) (.ref le) (.ref ss) (.int (1 : Int32)) (.int (1 : Int32)) .null (.int (0 : Int32)) (.int (1 : Int32)) (.int (1 : Int32)))) :: (sl, (IA Z .int xs)) :: (rv, (IA Z .int (List.replicate 16 0))) :: (va, (IA Z .int (a :: List.replicate 15 0))) :: (le, (LA Z ((0 : Int64) :: List.replicate 15 0))) :: (ss, (IA Z .byte (List.replicate 16 0))) :: (il, (ShAL Z (.int (0 : Int32)) dv (.int (0 : Int32)))) :: F) 0 13 d17_46 (host := "") (Or.inl (wd hw 153 rfl)) Via.refl (Or.inl (wd hw 154 rfl)) (wd hw 1 rfl) (ty := .int) (by decide) rfl rfl rfl rfl rfl (pc' := 49) rfl ?_
  exact W.retV d17_49 rfl (by decide) (by decide) ⟨rfl, rfl⟩
set_option maxRecDepth 65536 in
set_option maxHeartbeats 40000000 in
theorem remT6 (l : Launch) (Z : State) (n0 : Nat) (a0 : Array Value) (hw : ∀ d ∈ tables_1, d.before a0 Z = true) (F : Asn) (dv : Value) (hdr : dv.isRef = true) (t sl ix il rv va le ss : Addr) (a : Int32) (xs : List Int32) (K : List Int32 → Prop) (p : Nat) (i3 i5 : Int32) (s6 : Slot) (hlx : xs.length = 32) (hp : p < 32) (hK : K (xs.set p 0)) : W l Z n0 ("com/example/mendb/mendb/TupleStore", "remove", prog_126_method_25_code, 7, none) ({ frames := 2, cells := 0, slots := 0, locals := 40 } : Room) (fun v σ' => v = none ∧ ∃ xs' : List Int32, xs'.length = 32 ∧ K xs' ∧ σ' = ((t, (ShTS Z (.ref sl) (.ref ix) (.ref il) (.ref rv) (.int (1 : Int32)) (.ref va) (.ref le) (.ref ss) (.int (0 : Int32)) (.int (1 : Int32)) .null (.int (1 : Int32)) (.int (0 : Int32)) (.int (0 : Int32)))) :: (sl, (IA Z .int xs')) :: (rv, (IA Z .int (List.replicate 16 0))) :: (va, (IA Z .int (a :: List.replicate 15 0))) :: (le, (LA Z ((0 : Int64) :: List.replicate 15 0))) :: (ss, (IA Z .byte (3 :: List.replicate 15 0))) :: (il, (ShAL Z (.int (0 : Int32)) dv (.int (0 : Int32)))) :: F)) 0 0 ((t, (ShTS Z (.ref sl) (.ref ix) (.ref il) (.ref rv) (.int (1 : Int32)) (.ref va) (.ref le) (.ref ss) (.int (1 : Int32)) (.int (1 : Int32)) .null (.int (0 : Int32)) (.int (0 : Int32)) (.int (0 : Int32)))) :: (sl, (IA Z .int xs)) :: (rv, (IA Z .int (List.replicate 16 0))) :: (va, (IA Z .int (a :: List.replicate 15 0))) :: (le, (LA Z ((0 : Int64) :: List.replicate 15 0))) :: (ss, (IA Z .byte (List.replicate 16 0))) :: (il, (ShAL Z (.int (0 : Int32)) dv (.int (0 : Int32)))) :: F) 139 #[.val (.ref t), .val (.int (0 : Int32)), .val (.int (31 : Int32)), .val (.int i3), .val (.int (Int32.ofNat p)), .val (.int i5), s6] [] := by
  refine W.aloadN d16_139 (pc' := 140) rfl rfl rfl ?_
  refine W.getF 0 0 d16_140 (host := "") (Or.inl (wd hw 10 rfl)) Via.refl rfl rfl (pc' := 143) rfl ?_
  refine W.iload d16_143 (pc' := 145) rfl rfl ?_
  refine W.iconst (0 : Int32) d16_145 (pc' := 146) rfl rfl ?_
  refine W.iastore ((t, (ShTS Z (.ref sl) (.ref ix) (.ref il) (.ref rv) (.int (1 : Int32)) (.ref va) (.ref le) (.ref ss) (.int (1 : Int32)) (.int (1 : Int32)) .null (.int (0 : Int32)) (.int (0 : Int32)) (.int (0 : Int32)))) :: (sl, (IA Z .int (xs.set p 0))) :: (rv, (IA Z .int (List.replicate 16 0))) :: (va, (IA Z .int (a :: List.replicate 15 0))) :: (le, (LA Z ((0 : Int64) :: List.replicate 15 0))) :: (ss, (IA Z .byte (List.replicate 16 0))) :: (il, (ShAL Z (.int (0 : Int32)) dv (.int (0 : Int32)))) :: F) 1 p d16_146 rfl (own_nn hp) (own_tn hp) (by rw [hlx]; exact hp) rfl (pc' := 147) rfl ?_
  refine W.aloadN d16_147 (pc' := 148) rfl rfl rfl ?_
  refine W.getF 0 7 d16_148 (host := "") (Or.inl (wd hw 66 rfl)) Via.refl rfl rfl (pc' := 151) rfl ?_
  refine W.iloadN d16_151 (pc' := 152) rfl rfl ?_
  refine W.iconst (3 : Int32) d16_152 (pc' := 153) rfl rfl ?_
  refine W.bastore ((t, (ShTS Z (.ref sl) (.ref ix) (.ref il) (.ref rv) (.int (1 : Int32)) (.ref va) (.ref le) (.ref ss) (.int (1 : Int32)) (.int (1 : Int32)) .null (.int (0 : Int32)) (.int (0 : Int32)) (.int (0 : Int32)))) :: (sl, (IA Z .int (xs.set p 0))) :: (rv, (IA Z .int (List.replicate 16 0))) :: (va, (IA Z .int (a :: List.replicate 15 0))) :: (le, (LA Z ((0 : Int64) :: List.replicate 15 0))) :: (ss, (IA Z .byte (3 :: List.replicate 15 0))) :: (il, (ShAL Z (.int (0 : Int32)) dv (.int (0 : Int32)))) :: F) 5 0 d16_153 rfl (by decide) rfl (Nat.le_of_ble_eq_true rfl) rfl (pc' := 154) rfl ?_
  refine W.aloadN d16_154 (pc' := 155) rfl rfl rfl ?_
  refine W.dup d16_155 (pc' := 156) rfl rfl ?_
  refine W.getF 0 8 d16_156 (host := "") (Or.inl (wd hw 78 rfl)) Via.refl rfl rfl (pc' := 159) rfl ?_
  refine W.iconst (1 : Int32) d16_159 (pc' := 160) rfl rfl ?_
  refine W.isub d16_160 (pc' := 161) rfl ?_
  refine W.topI (0 : Int32) (by decide) ?_
  refine W.putF ((t, (ShTS Z (.ref sl) (.ref ix) (.ref il) (.ref rv) (.int (1 : Int32)) (.ref va) (.ref le) (.ref ss) (.int (0 : Int32)) (.int (1 : Int32)) .null (.int (0 : Int32)) (.int (0 : Int32)) (.int (0 : Int32)))) :: (sl, (IA Z .int (xs.set p 0))) :: (rv, (IA Z .int (List.replicate 16 0))) :: (va, (IA Z .int (a :: List.replicate 15 0))) :: (le, (LA Z ((0 : Int64) :: List.replicate 15 0))) :: (ss, (IA Z .byte (3 :: List.replicate 15 0))) :: (il, (ShAL Z (.int (0 : Int32)) dv (.int (0 : Int32)))) :: F) 0 8 d16_161 (host := "") (Or.inl (wd hw 78 rfl)) Via.refl (Or.inl (wd hw 79 rfl)) (wd hw 1 rfl) (ty := .int) (by decide) rfl rfl rfl rfl rfl (pc' := 164) rfl ?_
  refine W.aloadN d16_164 (pc' := 165) rfl rfl rfl ?_
  refine W.getF 0 11 d16_165 (host := "") (Or.inl (wd hw 144 rfl)) Via.refl rfl rfl (pc' := 168) rfl ?_
  refine W.aloadN d16_168 (pc' := 169) rfl rfl rfl ?_
  refine W.getF 0 3 d16_169 (host := "") (Or.inl (wd hw 56 rfl)) Via.refl rfl rfl (pc' := 172) rfl ?_
  refine W.len 2 (16 : Int32) d16_172 rfl rfl (pc' := 173) rfl ?_
  refine W.icmpY d16_173 (by decide) (by decide) (pc' := 193) rfl ?_
  refine W.aloadN d16_193 (pc' := 194) rfl rfl rfl ?_
  refine W.getF 0 3 d16_194 (host := "") (Or.inl (wd hw 56 rfl)) Via.refl rfl rfl (pc' := 197) rfl ?_
  refine W.aloadN d16_197 (pc' := 198) rfl rfl rfl ?_
  refine W.getF 0 11 d16_198 (host := "") (Or.inl (wd hw 144 rfl)) Via.refl rfl rfl (pc' := 201) rfl ?_
  refine W.iloadN d16_201 (pc' := 202) rfl rfl ?_
  refine W.iastore ((t, (ShTS Z (.ref sl) (.ref ix) (.ref il) (.ref rv) (.int (1 : Int32)) (.ref va) (.ref le) (.ref ss) (.int (0 : Int32)) (.int (1 : Int32)) .null (.int (0 : Int32)) (.int (0 : Int32)) (.int (0 : Int32)))) :: (sl, (IA Z .int (xs.set p 0))) :: (rv, (IA Z .int (List.replicate 16 0))) :: (va, (IA Z .int (a :: List.replicate 15 0))) :: (le, (LA Z ((0 : Int64) :: List.replicate 15 0))) :: (ss, (IA Z .byte (3 :: List.replicate 15 0))) :: (il, (ShAL Z (.int (0 : Int32)) dv (.int (0 : Int32)))) :: F) 2 0 d16_202 rfl (by decide) rfl (Nat.le_of_ble_eq_true rfl) rfl (pc' := 203) rfl ?_
  refine W.aloadN d16_203 (pc' := 204) rfl rfl rfl ?_
  refine W.dup d16_204 (pc' := 205) rfl rfl ?_
  refine W.getF 0 11 d16_205 (host := "") (Or.inl (wd hw 144 rfl)) Via.refl rfl rfl (pc' := 208) rfl ?_
  refine W.iconst (1 : Int32) d16_208 (pc' := 209) rfl rfl ?_
  refine W.iadd d16_209 (pc' := 210) rfl ?_
  refine W.topI (1 : Int32) (by decide) ?_
  refine W.putF ((t, (ShTS Z (.ref sl) (.ref ix) (.ref il) (.ref rv) (.int (1 : Int32)) (.ref va) (.ref le) (.ref ss) (.int (0 : Int32)) (.int (1 : Int32)) .null (.int (1 : Int32)) (.int (0 : Int32)) (.int (0 : Int32)))) :: (sl, (IA Z .int (xs.set p 0))) :: (rv, (IA Z .int (List.replicate 16 0))) :: (va, (IA Z .int (a :: List.replicate 15 0))) :: (le, (LA Z ((0 : Int64) :: List.replicate 15 0))) :: (ss, (IA Z .byte (3 :: List.replicate 15 0))) :: (il, (ShAL Z (.int (0 : Int32)) dv (.int (0 : Int32)))) :: F) 0 11 d16_210 (host := "") (Or.inl (wd hw 144 rfl)) Via.refl (Or.inl (wd hw 145 rfl)) (wd hw 1 rfl) (ty := .int) (by decide) rfl rfl rfl rfl rfl (pc' := 213) rfl ?_
  exact W.retV d16_213 rfl (by decide) (by decide) ⟨rfl, _, by rw [List.length_set]; exact hlx, hK, rfl⟩
theorem pn_mRem7 : plainFor (⟨"com/example/mendb/mendb/TupleStore", "remove", "(I)V"⟩ : MethodName) = true := by first | (refine plainFor_of_name ?_; simp [plainName, overriddenIn]; done) | (refine plainFor_of_name ?_; decide +kernel) | decide +kernel
set_option maxRecDepth 65536 in
set_option maxHeartbeats 40000000 in
theorem mRem7 (l : Launch) (Z : State) (n0 : Nat) (a0 : Array Value) (hw : ∀ d ∈ tables_1, d.before a0 Z = true) (F : Asn) (dv : Value) (hdr : dv.isRef = true) (t sl ix il rv va le ss : Addr) (a : Int32) : Sp l Z n0 (⟨"com/example/mendb/mendb/TupleStore", "remove", "(I)V"⟩ : MethodName) prog_126_method_25_code 7 none ({ frames := 2, cells := 0, slots := 0, locals := 40 } : Room) [(.ref t), (.int (0 : Int32))] ((t, (ShTS Z (.ref sl) (.ref ix) (.ref il) (.ref rv) (.int (1 : Int32)) (.ref va) (.ref le) (.ref ss) (.int (1 : Int32)) (.int (1 : Int32)) .null (.int (0 : Int32)) (.int (0 : Int32)) (.int (0 : Int32)))) :: (sl, (IA Z .int (own_one (own_s a)))) :: (rv, (IA Z .int (List.replicate 16 0))) :: (va, (IA Z .int (a :: List.replicate 15 0))) :: (le, (LA Z ((0 : Int64) :: List.replicate 15 0))) :: (ss, (IA Z .byte (List.replicate 16 0))) :: (il, (ShAL Z (.int (0 : Int32)) dv (.int (0 : Int32)))) :: F) (fun v σ' => v = none ∧ ∃ xs' : List Int32, xs'.length = 32 ∧ (fun _ => True) xs' ∧ σ' = ((t, (ShTS Z (.ref sl) (.ref ix) (.ref il) (.ref rv) (.int (1 : Int32)) (.ref va) (.ref le) (.ref ss) (.int (0 : Int32)) (.int (1 : Int32)) .null (.int (1 : Int32)) (.int (0 : Int32)) (.int (0 : Int32)))) :: (sl, (IA Z .int xs')) :: (rv, (IA Z .int (List.replicate 16 0))) :: (va, (IA Z .int (a :: List.replicate 15 0))) :: (le, (LA Z ((0 : Int64) :: List.replicate 15 0))) :: (ss, (IA Z .byte (3 :: List.replicate 15 0))) :: (il, (ShAL Z (.int (0 : Int32)) dv (.int (0 : Int32)))) :: F)) := by
  refine Sp.of (ls := #[.val (.ref t), .val (.int (0 : Int32)), .unset, .unset, .unset, .unset, .unset]) pn_mRem7 (fun m => by first | (simp [entryFrame, mkF, argsToLocals, Value.category]; done) | rfl) ?_
  show W _ _ _ _ _ _ 0 0 ((t, (ShTS Z (.ref sl) (.ref ix) (.ref il) (.ref rv) (.int (1 : Int32)) (.ref va) (.ref le) (.ref ss) (.int (1 : Int32)) (.int (1 : Int32)) .null (.int (0 : Int32)) (.int (0 : Int32)) (.int (0 : Int32)))) :: (sl, (IA Z .int (own_one (own_s a)))) :: (rv, (IA Z .int (List.replicate 16 0))) :: (va, (IA Z .int (a :: List.replicate 15 0))) :: (le, (LA Z ((0 : Int64) :: List.replicate 15 0))) :: (ss, (IA Z .byte (List.replicate 16 0))) :: (il, (ShAL Z (.int (0 : Int32)) dv (.int (0 : Int32)))) :: F) 0 #[.val (.ref t), .val (.int (0 : Int32)), .unset, .unset, .unset, .unset, .unset] []
  have la := own_s_lt a
  have lb := own_s_lt a
  refine W.aloadN d16_0 (pc' := 1) rfl rfl rfl ?_
  refine W.getF 0 0 d16_1 (host := "") (Or.inl (wd hw 10 rfl)) Via.refl rfl rfl (pc' := 4) rfl ?_
  refine W.len 1 (32 : Int32) d16_4 rfl (by rw [own_one_len]; rfl) (pc' := 5) rfl ?_
  refine W.iconst (1 : Int32) d16_5 (pc' := 6) rfl rfl ?_
  refine W.isub d16_6 (pc' := 7) rfl ?_
  refine W.topI (31 : Int32) (by decide) ?_
  refine W.istoreN #[.val (.ref t), .val (.int (0 : Int32)), .val (.int (31 : Int32)), .unset, .unset, .unset, .unset] d16_7 (pc' := 8) rfl rfl ?_
  refine W.aloadN d16_8 (pc' := 9) rfl rfl rfl ?_
  refine W.aloadN d16_9 (pc' := 10) rfl rfl rfl ?_
  refine W.getF 0 5 d16_10 (host := "") (Or.inl (wd hw 60 rfl)) Via.refl rfl rfl (pc' := 13) rfl ?_
  refine W.iloadN d16_13 (pc' := 14) rfl rfl ?_
  refine W.aloadN d16_14 (pc' := 15) rfl rfl rfl ?_
  refine W.getF 0 4 d16_15 (host := "") (Or.inl (wd hw 58 rfl)) Via.refl rfl rfl (pc' := 18) rfl ?_
  refine W.imul d16_18 (pc' := 19) rfl ?_
  refine W.topI (0 : Int32) (by decide) ?_
  refine W.pulls ((t, (ShTS Z (.ref sl) (.ref ix) (.ref il) (.ref rv) (.int (1 : Int32)) (.ref va) (.ref le) (.ref ss) (.int (1 : Int32)) (.int (1 : Int32)) .null (.int (0 : Int32)) (.int (0 : Int32)) (.int (0 : Int32)))) :: (va, (IA Z .int (a :: List.replicate 15 0))) :: (sl, (IA Z .int (own_one (own_s a)))) :: (rv, (IA Z .int (List.replicate 16 0))) :: (le, (LA Z ((0 : Int64) :: List.replicate 15 0))) :: (ss, (IA Z .byte (List.replicate 16 0))) :: (il, (ShAL Z (.int (0 : Int32)) dv (.int (0 : Int32)))) :: F) [3, 1] rfl ?_
  refine W.callP 0 rfl (mHash0 l Z n0 a0 hw ((sl, (IA Z .int (own_one (own_s a)))) :: (rv, (IA Z .int (List.replicate 16 0))) :: (le, (LA Z ((0 : Int64) :: List.replicate 15 0))) :: (ss, (IA Z .byte (List.replicate 16 0))) :: (il, (ShAL Z (.int (0 : Int32)) dv (.int (0 : Int32)))) :: F) t va (.ref sl) (.ref ix) (.ref il) (.ref rv) (.ref va) (.ref le) (.ref ss) (.int (1 : Int32)) (.int (1 : Int32)) .null (.int (0 : Int32)) (.int (0 : Int32)) (.int (0 : Int32)) (a :: List.replicate 15 0) a rfl) d16_19 (wd hw 80 rfl) (wd hw 81 rfl) (wd hw 82 rfl) (wd hw 1 rfl) (wd hw 2 rfl) (wd hw 83 rfl) (by decide) pd6 rfl rfl (Nat.le_of_ble_eq_true rfl) (Nat.le_of_ble_eq_true rfl) (Nat.le_of_ble_eq_true rfl) (Nat.le_of_ble_eq_true rfl) rfl (pc' := 22) rfl ?_
  intro v9 s9 q9
  rw [q9.1, q9.2]
  clear q9 v9 s9
  show W _ _ _ _ _ _ 0 0 ((t, (ShTS Z (.ref sl) (.ref ix) (.ref il) (.ref rv) (.int (1 : Int32)) (.ref va) (.ref le) (.ref ss) (.int (1 : Int32)) (.int (1 : Int32)) .null (.int (0 : Int32)) (.int (0 : Int32)) (.int (0 : Int32)))) :: (va, (IA Z .int (a :: List.replicate 15 0))) :: (sl, (IA Z .int (own_one (own_s a)))) :: (rv, (IA Z .int (List.replicate 16 0))) :: (le, (LA Z ((0 : Int64) :: List.replicate 15 0))) :: (ss, (IA Z .byte (List.replicate 16 0))) :: (il, (ShAL Z (.int (0 : Int32)) dv (.int (0 : Int32)))) :: F) 22 #[.val (.ref t), .val (.int (0 : Int32)), .val (.int (31 : Int32)), .unset, .unset, .unset, .unset] [(.int (own_h a))]
  refine W.iloadN d16_22 (pc' := 23) rfl rfl ?_
  refine W.iand d16_23 (pc' := 24) rfl ?_
  refine W.topI (Int32.ofNat (own_s a)) (own_slot a) ?_
  refine W.pulls ((t, (ShTS Z (.ref sl) (.ref ix) (.ref il) (.ref rv) (.int (1 : Int32)) (.ref va) (.ref le) (.ref ss) (.int (1 : Int32)) (.int (1 : Int32)) .null (.int (0 : Int32)) (.int (0 : Int32)) (.int (0 : Int32)))) :: (sl, (IA Z .int (own_one (own_s a)))) :: (rv, (IA Z .int (List.replicate 16 0))) :: (va, (IA Z .int (a :: List.replicate 15 0))) :: (le, (LA Z ((0 : Int64) :: List.replicate 15 0))) :: (ss, (IA Z .byte (List.replicate 16 0))) :: (il, (ShAL Z (.int (0 : Int32)) dv (.int (0 : Int32)))) :: F) [3, 3, 2] rfl ?_
  refine W.istoreN #[.val (.ref t), .val (.int (0 : Int32)), .val (.int (31 : Int32)), .val (.int (Int32.ofNat (own_s a))), .unset, .unset, .unset] d16_24 (pc' := 25) rfl rfl ?_
  refine W.aloadN d16_25 (pc' := 26) rfl rfl rfl ?_
  refine W.getF 0 0 d16_26 (host := "") (Or.inl (wd hw 10 rfl)) Via.refl rfl rfl (pc' := 29) rfl ?_
  refine W.iloadN d16_29 (pc' := 30) rfl rfl ?_
  refine W.iaload 1 (own_s a) (x := 1) d16_30 rfl (own_nn (by omega)) (own_tn (by omega)) (by rw [own_one_at la, if_pos rfl]) (pc' := 31) rfl ?_
  refine W.iloadN d16_31 (pc' := 32) rfl rfl ?_
  refine W.iconst (1 : Int32) d16_32 (pc' := 33) rfl rfl ?_
  refine W.iadd d16_33 (pc' := 34) rfl ?_
  refine W.topI (1 : Int32) (by decide) ?_
  refine W.icmpY d16_34 (by decide) (by decide) (pc' := 46) rfl ?_
  refine W.iloadN d16_46 (pc' := 47) rfl rfl ?_
  refine W.istore #[.val (.ref t), .val (.int (0 : Int32)), .val (.int (31 : Int32)), .val (.int (Int32.ofNat (own_s a))), .val (.int (Int32.ofNat (own_s a))), .unset, .unset] d16_47 (pc' := 49) rfl rfl ?_
  refine W.iload d16_49 (pc' := 51) rfl rfl ?_
  refine W.iconst (1 : Int32) d16_51 (pc' := 52) rfl rfl ?_
  refine W.iadd d16_52 (pc' := 53) rfl ?_
  refine W.iloadN d16_53 (pc' := 54) rfl rfl ?_
  refine W.iand d16_54 (pc' := 55) rfl ?_
  refine W.topI (Int32.ofNat ((own_s a + 1) % 32)) (own_inc (p := own_s a) (by omega)) ?_
  refine W.istore #[.val (.ref t), .val (.int (0 : Int32)), .val (.int (31 : Int32)), .val (.int (Int32.ofNat (own_s a))), .val (.int (Int32.ofNat (own_s a))), .val (.int (Int32.ofNat ((own_s a + 1) % 32))), .unset] d16_55 (pc' := 57) rfl rfl ?_
  refine W.aloadN d16_57 (pc' := 58) rfl rfl rfl ?_
  refine W.getF 0 0 d16_58 (host := "") (Or.inl (wd hw 10 rfl)) Via.refl rfl rfl (pc' := 61) rfl ?_
  refine W.iload d16_61 (pc' := 63) rfl rfl ?_
  refine W.iaload 1 ((own_s a + 1) % 32) (x := 0) d16_63 rfl (own_nn (by omega)) (own_tn (by omega)) (by rw [own_one_at (by omega), if_neg (by omega)]) (pc' := 64) rfl ?_
  refine W.ifY d16_64 (by decide) (by decide) (pc' := 139) rfl ?_
  exact remT6 l Z n0 a0 hw F dv hdr t sl ix il rv va le ss a (own_one (own_s a)) (fun _ => True) (own_s a) _ _ _ (own_one_len _) (by omega) trivial
theorem pn_mBC8 : plainFor (⟨"com/example/mendb/mendb/TupleStore", "beginCommit", "()V"⟩ : MethodName) = true := by first | (refine plainFor_of_name ?_; simp [plainName, overriddenIn]; done) | (refine plainFor_of_name ?_; decide +kernel) | decide +kernel
set_option maxRecDepth 65536 in
set_option maxHeartbeats 40000000 in
theorem mBC8 (l : Launch) (Z : State) (n0 : Nat) (a0 : Array Value) (hw : ∀ d ∈ tables_1, d.before a0 Z = true) (F : Asn) (dv : Value) (hdr : dv.isRef = true) (t sl ix il rv va le ss : Addr) (a : Int32) (xs : List Int32) : Sp l Z n0 (⟨"com/example/mendb/mendb/TupleStore", "beginCommit", "()V"⟩ : MethodName) prog_126_method_26_code 2 none ({ frames := 0, cells := 0, slots := 0, locals := 0 } : Room) [(.ref t)] ((t, (ShTS Z (.ref sl) (.ref ix) (.ref il) (.ref rv) (.int (1 : Int32)) (.ref va) (.ref le) (.ref ss) (.int (0 : Int32)) (.int (1 : Int32)) .null (.int (1 : Int32)) (.int (0 : Int32)) (.int (0 : Int32)))) :: (sl, (IA Z .int xs)) :: (rv, (IA Z .int (List.replicate 16 0))) :: (va, (IA Z .int (a :: List.replicate 15 0))) :: (le, (LA Z ((0 : Int64) :: List.replicate 15 0))) :: (ss, (IA Z .byte (3 :: List.replicate 15 0))) :: (il, (ShAL Z (.int (0 : Int32)) dv (.int (0 : Int32)))) :: F) (Ret none ((t, (ShTS Z (.ref sl) (.ref ix) (.ref il) (.ref rv) (.int (1 : Int32)) (.ref va) (.ref le) (.ref ss) (.int (0 : Int32)) (.int (1 : Int32)) .null (.int (0 : Int32)) (.int (1 : Int32)) (.int (0 : Int32)))) :: (sl, (IA Z .int xs)) :: (rv, (IA Z .int (List.replicate 16 0))) :: (va, (IA Z .int (a :: List.replicate 15 0))) :: (le, (LA Z ((0 : Int64) :: List.replicate 15 0))) :: (ss, (IA Z .byte (4 :: List.replicate 15 0))) :: (il, (ShAL Z (.int (0 : Int32)) dv (.int (0 : Int32)))) :: F)) := by
  refine Sp.of (ls := #[.val (.ref t), .unset]) pn_mBC8 (fun m => by first | (simp [entryFrame, mkF, argsToLocals, Value.category]; done) | rfl) ?_
  show W _ _ _ _ _ _ 0 0 ((t, (ShTS Z (.ref sl) (.ref ix) (.ref il) (.ref rv) (.int (1 : Int32)) (.ref va) (.ref le) (.ref ss) (.int (0 : Int32)) (.int (1 : Int32)) .null (.int (1 : Int32)) (.int (0 : Int32)) (.int (0 : Int32)))) :: (sl, (IA Z .int xs)) :: (rv, (IA Z .int (List.replicate 16 0))) :: (va, (IA Z .int (a :: List.replicate 15 0))) :: (le, (LA Z ((0 : Int64) :: List.replicate 15 0))) :: (ss, (IA Z .byte (3 :: List.replicate 15 0))) :: (il, (ShAL Z (.int (0 : Int32)) dv (.int (0 : Int32)))) :: F) 0 #[.val (.ref t), .unset] []
  refine W.iconst (0 : Int32) d17_0 (pc' := 1) rfl rfl ?_
  refine W.istoreN #[.val (.ref t), .val (.int (0 : Int32))] d17_1 (pc' := 2) rfl rfl ?_
  refine W.iloadN d17_2 (pc' := 3) rfl rfl ?_
  refine W.aloadN d17_3 (pc' := 4) rfl rfl rfl ?_
  refine W.getF 0 11 d17_4 (host := "") (Or.inl (wd hw 144 rfl)) Via.refl rfl rfl (pc' := 7) rfl ?_
  refine W.icmpN d17_7 (by decide) (pc' := 10) rfl ?_
  refine W.aloadN d17_10 (pc' := 11) rfl rfl rfl ?_
  refine W.getF 0 7 d17_11 (host := "") (Or.inl (wd hw 66 rfl)) Via.refl rfl rfl (pc' := 14) rfl ?_
  refine W.aloadN d17_14 (pc' := 15) rfl rfl rfl ?_
  refine W.getF 0 3 d17_15 (host := "") (Or.inl (wd hw 56 rfl)) Via.refl rfl rfl (pc' := 18) rfl ?_
  refine W.iloadN d17_18 (pc' := 19) rfl rfl ?_
  refine W.iaload 2 0 (x := 0) d17_19 rfl (by decide) rfl rfl (pc' := 20) rfl ?_
  refine W.iconst (4 : Int32) d17_20 (pc' := 21) rfl rfl ?_
  refine W.bastore ((t, (ShTS Z (.ref sl) (.ref ix) (.ref il) (.ref rv) (.int (1 : Int32)) (.ref va) (.ref le) (.ref ss) (.int (0 : Int32)) (.int (1 : Int32)) .null (.int (1 : Int32)) (.int (0 : Int32)) (.int (0 : Int32)))) :: (sl, (IA Z .int xs)) :: (rv, (IA Z .int (List.replicate 16 0))) :: (va, (IA Z .int (a :: List.replicate 15 0))) :: (le, (LA Z ((0 : Int64) :: List.replicate 15 0))) :: (ss, (IA Z .byte (4 :: List.replicate 15 0))) :: (il, (ShAL Z (.int (0 : Int32)) dv (.int (0 : Int32)))) :: F) 5 0 d17_21 rfl (by decide) rfl (Nat.le_of_ble_eq_true rfl) rfl (pc' := 22) rfl ?_
  refine W.iinc #[.val (.ref t), .val (.int (1 : Int32))] (1 : Int32) (1 : Int32) d17_22 (pc' := 25) rfl rfl rfl (by decide) rfl ?_
  refine W.goto d17_25 (pc' := 2) (by decide) rfl ?_
  refine W.iloadN d17_2 (pc' := 3) rfl rfl ?_
  refine W.aloadN d17_3 (pc' := 4) rfl rfl rfl ?_
  refine W.getF 0 11 d17_4 (host := "") (Or.inl (wd hw 144 rfl)) Via.refl rfl rfl (pc' := 7) rfl ?_
  refine W.icmpY d17_7 (by decide) (by decide) (pc' := 28) rfl ?_
  refine W.aloadN d17_28 (pc' := 29) rfl rfl rfl ?_
  refine W.aloadN d17_29 (pc' := 30) rfl rfl rfl ?_
  refine W.getF 0 9 d17_30 (host := "") (Or.inl (wd hw 93 rfl)) Via.refl rfl rfl (pc' := 33) rfl ?_
  refine W.putF ((t, (ShTS Z (.ref sl) (.ref ix) (.ref il) (.ref rv) (.int (1 : Int32)) (.ref va) (.ref le) (.ref ss) (.int (0 : Int32)) (.int (1 : Int32)) .null (.int (1 : Int32)) (.int (1 : Int32)) (.int (0 : Int32)))) :: (sl, (IA Z .int xs)) :: (rv, (IA Z .int (List.replicate 16 0))) :: (va, (IA Z .int (a :: List.replicate 15 0))) :: (le, (LA Z ((0 : Int64) :: List.replicate 15 0))) :: (ss, (IA Z .byte (4 :: List.replicate 15 0))) :: (il, (ShAL Z (.int (0 : Int32)) dv (.int (0 : Int32)))) :: F) 0 12 d17_33 (host := "") (Or.inl (wd hw 151 rfl)) Via.refl (Or.inl (wd hw 152 rfl)) (wd hw 1 rfl) (ty := .int) (by decide) rfl rfl rfl rfl rfl (pc' := 36) rfl ?_
  refine W.aloadN d17_36 (pc' := 37) rfl rfl rfl ?_
  refine W.iconst (0 : Int32) d17_37 (pc' := 38) rfl rfl ?_
  refine W.putF ((t, (ShTS Z (.ref sl) (.ref ix) (.ref il) (.ref rv) (.int (1 : Int32)) (.ref va) (.ref le) (.ref ss) (.int (0 : Int32)) (.int (1 : Int32)) .null (.int (0 : Int32)) (.int (1 : Int32)) (.int (0 : Int32)))) :: (sl, (IA Z .int xs)) :: (rv, (IA Z .int (List.replicate 16 0))) :: (va, (IA Z .int (a :: List.replicate 15 0))) :: (le, (LA Z ((0 : Int64) :: List.replicate 15 0))) :: (ss, (IA Z .byte (4 :: List.replicate 15 0))) :: (il, (ShAL Z (.int (0 : Int32)) dv (.int (0 : Int32)))) :: F) 0 11 d17_38 (host := "") (Or.inl (wd hw 144 rfl)) Via.refl (Or.inl (wd hw 145 rfl)) (wd hw 1 rfl) (ty := .int) (by decide) rfl rfl rfl rfl rfl (pc' := 41) rfl ?_
  refine W.aloadN d17_41 (pc' := 42) rfl rfl rfl ?_
  refine W.aloadN d17_42 (pc' := 43) rfl rfl rfl ?_
  refine W.getF 0 8 d17_43 (host := "") (Or.inl (wd hw 78 rfl)) Via.refl rfl rfl (pc' := 46) rfl ?_
  refine W.putF ((t, (ShTS Z (.ref sl) (.ref ix) (.ref il) (.ref rv) (.int (1 : Int32)) (.ref va) (.ref le) (.ref ss) (.int (0 : Int32)) (.int (1 : Int32)) .null (.int (0 : Int32)) (.int (1 : Int32)) (.int (0 : Int32)))) :: (sl, (IA Z .int xs)) :: (rv, (IA Z .int (List.replicate 16 0))) :: (va, (IA Z .int (a :: List.replicate 15 0))) :: (le, (LA Z ((0 : Int64) :: List.replicate 15 0))) :: (ss, (IA Z .byte (4 :: List.replicate 15 0))) :: (il, (ShAL Z (.int (0 : Int32)) dv (.int (0 : Int32)))) :: F) 0 13 d17_46 (host := "") (Or.inl (wd hw 153 rfl)) Via.refl (Or.inl (wd hw 154 rfl)) (wd hw 1 rfl) (ty := .int) (by decide) rfl rfl rfl rfl rfl (pc' := 49) rfl ?_
  exact W.retV d17_49 rfl (by decide) (by decide) ⟨rfl, rfl⟩
theorem pn_mG9 : plainFor (⟨"com/example/mendb/mendb/TupleStore", "state", "(I)B"⟩ : MethodName) = true := by first | (refine plainFor_of_name ?_; simp [plainName, overriddenIn]; done) | (refine plainFor_of_name ?_; decide +kernel) | decide +kernel
set_option maxRecDepth 65536 in
set_option maxHeartbeats 40000000 in
theorem mG9 (l : Launch) (Z : State) (n0 : Nat) (a0 : Array Value) (hw : ∀ d ∈ tables_1, d.before a0 Z = true) (F : Asn) (dv : Value) (hdr : dv.isRef = true) (t sl ix il rv va le ss : Addr) (a : Int32) (xs : List Int32) : Sp l Z n0 (⟨"com/example/mendb/mendb/TupleStore", "state", "(I)B"⟩ : MethodName) prog_126_method_14_code 2 (some .byte) ({ frames := 0, cells := 0, slots := 0, locals := 0 } : Room) [(.ref t), (.int (0 : Int32))] ((t, (ShTS Z (.ref sl) (.ref ix) (.ref il) (.ref rv) (.int (1 : Int32)) (.ref va) (.ref le) (.ref ss) (.int (0 : Int32)) (.int (1 : Int32)) .null (.int (0 : Int32)) (.int (1 : Int32)) (.int (0 : Int32)))) :: (sl, (IA Z .int xs)) :: (rv, (IA Z .int (List.replicate 16 0))) :: (va, (IA Z .int (a :: List.replicate 15 0))) :: (le, (LA Z ((0 : Int64) :: List.replicate 15 0))) :: (ss, (IA Z .byte (4 :: List.replicate 15 0))) :: (il, (ShAL Z (.int (0 : Int32)) dv (.int (0 : Int32)))) :: F) (Ret (some (.int 4)) ((t, (ShTS Z (.ref sl) (.ref ix) (.ref il) (.ref rv) (.int (1 : Int32)) (.ref va) (.ref le) (.ref ss) (.int (0 : Int32)) (.int (1 : Int32)) .null (.int (0 : Int32)) (.int (1 : Int32)) (.int (0 : Int32)))) :: (sl, (IA Z .int xs)) :: (rv, (IA Z .int (List.replicate 16 0))) :: (va, (IA Z .int (a :: List.replicate 15 0))) :: (le, (LA Z ((0 : Int64) :: List.replicate 15 0))) :: (ss, (IA Z .byte (4 :: List.replicate 15 0))) :: (il, (ShAL Z (.int (0 : Int32)) dv (.int (0 : Int32)))) :: F)) := by
  refine Sp.of (ls := #[.val (.ref t), .val (.int (0 : Int32))]) pn_mG9 (fun m => by first | (simp [entryFrame, mkF, argsToLocals, Value.category]; done) | rfl) ?_
  show W _ _ _ _ _ _ 0 0 ((t, (ShTS Z (.ref sl) (.ref ix) (.ref il) (.ref rv) (.int (1 : Int32)) (.ref va) (.ref le) (.ref ss) (.int (0 : Int32)) (.int (1 : Int32)) .null (.int (0 : Int32)) (.int (1 : Int32)) (.int (0 : Int32)))) :: (sl, (IA Z .int xs)) :: (rv, (IA Z .int (List.replicate 16 0))) :: (va, (IA Z .int (a :: List.replicate 15 0))) :: (le, (LA Z ((0 : Int64) :: List.replicate 15 0))) :: (ss, (IA Z .byte (4 :: List.replicate 15 0))) :: (il, (ShAL Z (.int (0 : Int32)) dv (.int (0 : Int32)))) :: F) 0 #[.val (.ref t), .val (.int (0 : Int32))] []
  refine W.aloadN d18_0 (pc' := 1) rfl rfl rfl ?_
  refine W.getF 0 7 d18_1 (host := "") (Or.inl (wd hw 66 rfl)) Via.refl rfl rfl (pc' := 4) rfl ?_
  refine W.iloadN d18_4 (pc' := 5) rfl rfl ?_
  refine W.baload 5 0 (x := 4) d18_5 rfl (by decide) rfl rfl (pc' := 6) rfl ?_
  exact W.retN (t := .byte) 4 d18_6 rfl (by simp) rfl (by decide) (by decide) ⟨rfl, rfl⟩
theorem pn_mG10 : plainFor (⟨"com/example/mendb/mendb/TupleStore", "firstAdded", "()I"⟩ : MethodName) = true := by first | (refine plainFor_of_name ?_; simp [plainName, overriddenIn]; done) | (refine plainFor_of_name ?_; decide +kernel) | decide +kernel
set_option maxRecDepth 65536 in
set_option maxHeartbeats 40000000 in
theorem mG10 (l : Launch) (Z : State) (n0 : Nat) (a0 : Array Value) (hw : ∀ d ∈ tables_1, d.before a0 Z = true) (F : Asn) (dv : Value) (hdr : dv.isRef = true) (t sl ix il rv va le ss : Addr) (a : Int32) (xs : List Int32) : Sp l Z n0 (⟨"com/example/mendb/mendb/TupleStore", "firstAdded", "()I"⟩ : MethodName) prog_126_method_27_code 1 (some .int) ({ frames := 0, cells := 0, slots := 0, locals := 0 } : Room) [(.ref t)] ((t, (ShTS Z (.ref sl) (.ref ix) (.ref il) (.ref rv) (.int (1 : Int32)) (.ref va) (.ref le) (.ref ss) (.int (0 : Int32)) (.int (1 : Int32)) .null (.int (0 : Int32)) (.int (1 : Int32)) (.int (0 : Int32)))) :: (sl, (IA Z .int xs)) :: (rv, (IA Z .int (List.replicate 16 0))) :: (va, (IA Z .int (a :: List.replicate 15 0))) :: (le, (LA Z ((0 : Int64) :: List.replicate 15 0))) :: (ss, (IA Z .byte (4 :: List.replicate 15 0))) :: (il, (ShAL Z (.int (0 : Int32)) dv (.int (0 : Int32)))) :: F) (Ret (some (.int 1)) ((t, (ShTS Z (.ref sl) (.ref ix) (.ref il) (.ref rv) (.int (1 : Int32)) (.ref va) (.ref le) (.ref ss) (.int (0 : Int32)) (.int (1 : Int32)) .null (.int (0 : Int32)) (.int (1 : Int32)) (.int (0 : Int32)))) :: (sl, (IA Z .int xs)) :: (rv, (IA Z .int (List.replicate 16 0))) :: (va, (IA Z .int (a :: List.replicate 15 0))) :: (le, (LA Z ((0 : Int64) :: List.replicate 15 0))) :: (ss, (IA Z .byte (4 :: List.replicate 15 0))) :: (il, (ShAL Z (.int (0 : Int32)) dv (.int (0 : Int32)))) :: F)) := by
  refine Sp.of (ls := #[.val (.ref t)]) pn_mG10 (fun m => by first | (simp [entryFrame, mkF, argsToLocals, Value.category]; done) | rfl) ?_
  show W _ _ _ _ _ _ 0 0 ((t, (ShTS Z (.ref sl) (.ref ix) (.ref il) (.ref rv) (.int (1 : Int32)) (.ref va) (.ref le) (.ref ss) (.int (0 : Int32)) (.int (1 : Int32)) .null (.int (0 : Int32)) (.int (1 : Int32)) (.int (0 : Int32)))) :: (sl, (IA Z .int xs)) :: (rv, (IA Z .int (List.replicate 16 0))) :: (va, (IA Z .int (a :: List.replicate 15 0))) :: (le, (LA Z ((0 : Int64) :: List.replicate 15 0))) :: (ss, (IA Z .byte (4 :: List.replicate 15 0))) :: (il, (ShAL Z (.int (0 : Int32)) dv (.int (0 : Int32)))) :: F) 0 #[.val (.ref t)] []
  refine W.aloadN d19_0 (pc' := 1) rfl rfl rfl ?_
  refine W.getF 0 12 d19_1 (host := "") (Or.inl (wd hw 151 rfl)) Via.refl rfl rfl (pc' := 4) rfl ?_
  exact W.retI d19_4 rfl (by decide) (by decide) ⟨rfl, rfl⟩
theorem pn_mG11 : plainFor (⟨"com/example/mendb/mendb/TupleStore", "removedCount", "()I"⟩ : MethodName) = true := by first | (refine plainFor_of_name ?_; simp [plainName, overriddenIn]; done) | (refine plainFor_of_name ?_; decide +kernel) | decide +kernel
set_option maxRecDepth 65536 in
set_option maxHeartbeats 40000000 in
theorem mG11 (l : Launch) (Z : State) (n0 : Nat) (a0 : Array Value) (hw : ∀ d ∈ tables_1, d.before a0 Z = true) (F : Asn) (dv : Value) (hdr : dv.isRef = true) (t sl ix il rv va le ss : Addr) (a : Int32) (xs : List Int32) : Sp l Z n0 (⟨"com/example/mendb/mendb/TupleStore", "removedCount", "()I"⟩ : MethodName) prog_126_method_28_code 1 (some .int) ({ frames := 0, cells := 0, slots := 0, locals := 0 } : Room) [(.ref t)] ((t, (ShTS Z (.ref sl) (.ref ix) (.ref il) (.ref rv) (.int (1 : Int32)) (.ref va) (.ref le) (.ref ss) (.int (0 : Int32)) (.int (1 : Int32)) .null (.int (0 : Int32)) (.int (1 : Int32)) (.int (0 : Int32)))) :: (sl, (IA Z .int xs)) :: (rv, (IA Z .int (List.replicate 16 0))) :: (va, (IA Z .int (a :: List.replicate 15 0))) :: (le, (LA Z ((0 : Int64) :: List.replicate 15 0))) :: (ss, (IA Z .byte (4 :: List.replicate 15 0))) :: (il, (ShAL Z (.int (0 : Int32)) dv (.int (0 : Int32)))) :: F) (Ret (some (.int 0)) ((t, (ShTS Z (.ref sl) (.ref ix) (.ref il) (.ref rv) (.int (1 : Int32)) (.ref va) (.ref le) (.ref ss) (.int (0 : Int32)) (.int (1 : Int32)) .null (.int (0 : Int32)) (.int (1 : Int32)) (.int (0 : Int32)))) :: (sl, (IA Z .int xs)) :: (rv, (IA Z .int (List.replicate 16 0))) :: (va, (IA Z .int (a :: List.replicate 15 0))) :: (le, (LA Z ((0 : Int64) :: List.replicate 15 0))) :: (ss, (IA Z .byte (4 :: List.replicate 15 0))) :: (il, (ShAL Z (.int (0 : Int32)) dv (.int (0 : Int32)))) :: F)) := by
  refine Sp.of (ls := #[.val (.ref t)]) pn_mG11 (fun m => by first | (simp [entryFrame, mkF, argsToLocals, Value.category]; done) | rfl) ?_
  show W _ _ _ _ _ _ 0 0 ((t, (ShTS Z (.ref sl) (.ref ix) (.ref il) (.ref rv) (.int (1 : Int32)) (.ref va) (.ref le) (.ref ss) (.int (0 : Int32)) (.int (1 : Int32)) .null (.int (0 : Int32)) (.int (1 : Int32)) (.int (0 : Int32)))) :: (sl, (IA Z .int xs)) :: (rv, (IA Z .int (List.replicate 16 0))) :: (va, (IA Z .int (a :: List.replicate 15 0))) :: (le, (LA Z ((0 : Int64) :: List.replicate 15 0))) :: (ss, (IA Z .byte (4 :: List.replicate 15 0))) :: (il, (ShAL Z (.int (0 : Int32)) dv (.int (0 : Int32)))) :: F) 0 #[.val (.ref t)] []
  refine W.aloadN d20_0 (pc' := 1) rfl rfl rfl ?_
  refine W.getF 0 11 d20_1 (host := "") (Or.inl (wd hw 144 rfl)) Via.refl rfl rfl (pc' := 4) rfl ?_
  exact W.retI d20_4 rfl (by decide) (by decide) ⟨rfl, rfl⟩
theorem pn_mG12 : plainFor (⟨"com/example/mendb/mendb/TupleStore", "countAtStart", "()I"⟩ : MethodName) = true := by first | (refine plainFor_of_name ?_; simp [plainName, overriddenIn]; done) | (refine plainFor_of_name ?_; decide +kernel) | decide +kernel
set_option maxRecDepth 65536 in
set_option maxHeartbeats 40000000 in
theorem mG12 (l : Launch) (Z : State) (n0 : Nat) (a0 : Array Value) (hw : ∀ d ∈ tables_1, d.before a0 Z = true) (F : Asn) (dv : Value) (hdr : dv.isRef = true) (t sl ix il rv va le ss : Addr) (a : Int32) (xs : List Int32) : Sp l Z n0 (⟨"com/example/mendb/mendb/TupleStore", "countAtStart", "()I"⟩ : MethodName) prog_126_method_18_code 1 (some .int) ({ frames := 0, cells := 0, slots := 0, locals := 0 } : Room) [(.ref t)] ((t, (ShTS Z (.ref sl) (.ref ix) (.ref il) (.ref rv) (.int (1 : Int32)) (.ref va) (.ref le) (.ref ss) (.int (0 : Int32)) (.int (1 : Int32)) .null (.int (0 : Int32)) (.int (1 : Int32)) (.int (0 : Int32)))) :: (sl, (IA Z .int xs)) :: (rv, (IA Z .int (List.replicate 16 0))) :: (va, (IA Z .int (a :: List.replicate 15 0))) :: (le, (LA Z ((0 : Int64) :: List.replicate 15 0))) :: (ss, (IA Z .byte (4 :: List.replicate 15 0))) :: (il, (ShAL Z (.int (0 : Int32)) dv (.int (0 : Int32)))) :: F) (Ret (some (.int 0)) ((t, (ShTS Z (.ref sl) (.ref ix) (.ref il) (.ref rv) (.int (1 : Int32)) (.ref va) (.ref le) (.ref ss) (.int (0 : Int32)) (.int (1 : Int32)) .null (.int (0 : Int32)) (.int (1 : Int32)) (.int (0 : Int32)))) :: (sl, (IA Z .int xs)) :: (rv, (IA Z .int (List.replicate 16 0))) :: (va, (IA Z .int (a :: List.replicate 15 0))) :: (le, (LA Z ((0 : Int64) :: List.replicate 15 0))) :: (ss, (IA Z .byte (4 :: List.replicate 15 0))) :: (il, (ShAL Z (.int (0 : Int32)) dv (.int (0 : Int32)))) :: F)) := by
  refine Sp.of (ls := #[.val (.ref t)]) pn_mG12 (fun m => by first | (simp [entryFrame, mkF, argsToLocals, Value.category]; done) | rfl) ?_
  show W _ _ _ _ _ _ 0 0 ((t, (ShTS Z (.ref sl) (.ref ix) (.ref il) (.ref rv) (.int (1 : Int32)) (.ref va) (.ref le) (.ref ss) (.int (0 : Int32)) (.int (1 : Int32)) .null (.int (0 : Int32)) (.int (1 : Int32)) (.int (0 : Int32)))) :: (sl, (IA Z .int xs)) :: (rv, (IA Z .int (List.replicate 16 0))) :: (va, (IA Z .int (a :: List.replicate 15 0))) :: (le, (LA Z ((0 : Int64) :: List.replicate 15 0))) :: (ss, (IA Z .byte (4 :: List.replicate 15 0))) :: (il, (ShAL Z (.int (0 : Int32)) dv (.int (0 : Int32)))) :: F) 0 #[.val (.ref t)] []
  refine W.aloadN d21_0 (pc' := 1) rfl rfl rfl ?_
  refine W.getF 0 13 d21_1 (host := "") (Or.inl (wd hw 153 rfl)) Via.refl rfl rfl (pc' := 4) rfl ?_
  exact W.retI d21_4 rfl (by decide) (by decide) ⟨rfl, rfl⟩
theorem pn_mBC13 : plainFor (⟨"com/example/mendb/mendb/TupleStore", "beginCommit", "()V"⟩ : MethodName) = true := by first | (refine plainFor_of_name ?_; simp [plainName, overriddenIn]; done) | (refine plainFor_of_name ?_; decide +kernel) | decide +kernel
set_option maxRecDepth 65536 in
set_option maxHeartbeats 40000000 in
theorem mBC13 (l : Launch) (Z : State) (n0 : Nat) (a0 : Array Value) (hw : ∀ d ∈ tables_1, d.before a0 Z = true) (F : Asn) (dv : Value) (hdr : dv.isRef = true) (t sl ix il rv va le ss : Addr) (a : Int32) (xs : List Int32) : Sp l Z n0 (⟨"com/example/mendb/mendb/TupleStore", "beginCommit", "()V"⟩ : MethodName) prog_126_method_26_code 2 none ({ frames := 0, cells := 0, slots := 0, locals := 0 } : Room) [(.ref t)] ((t, (ShTS Z (.ref sl) (.ref ix) (.ref il) (.ref rv) (.int (1 : Int32)) (.ref va) (.ref le) (.ref ss) (.int (0 : Int32)) (.int (1 : Int32)) .null (.int (0 : Int32)) (.int (1 : Int32)) (.int (0 : Int32)))) :: (sl, (IA Z .int xs)) :: (rv, (IA Z .int (List.replicate 16 0))) :: (va, (IA Z .int (a :: List.replicate 15 0))) :: (le, (LA Z ((0 : Int64) :: List.replicate 15 0))) :: (ss, (IA Z .byte (4 :: List.replicate 15 0))) :: (il, (ShAL Z (.int (0 : Int32)) dv (.int (0 : Int32)))) :: F) (Ret none ((t, (ShTS Z (.ref sl) (.ref ix) (.ref il) (.ref rv) (.int (1 : Int32)) (.ref va) (.ref le) (.ref ss) (.int (0 : Int32)) (.int (1 : Int32)) .null (.int (0 : Int32)) (.int (1 : Int32)) (.int (0 : Int32)))) :: (sl, (IA Z .int xs)) :: (rv, (IA Z .int (List.replicate 16 0))) :: (va, (IA Z .int (a :: List.replicate 15 0))) :: (le, (LA Z ((0 : Int64) :: List.replicate 15 0))) :: (ss, (IA Z .byte (4 :: List.replicate 15 0))) :: (il, (ShAL Z (.int (0 : Int32)) dv (.int (0 : Int32)))) :: F)) := by
  refine Sp.of (ls := #[.val (.ref t), .unset]) pn_mBC13 (fun m => by first | (simp [entryFrame, mkF, argsToLocals, Value.category]; done) | rfl) ?_
  show W _ _ _ _ _ _ 0 0 ((t, (ShTS Z (.ref sl) (.ref ix) (.ref il) (.ref rv) (.int (1 : Int32)) (.ref va) (.ref le) (.ref ss) (.int (0 : Int32)) (.int (1 : Int32)) .null (.int (0 : Int32)) (.int (1 : Int32)) (.int (0 : Int32)))) :: (sl, (IA Z .int xs)) :: (rv, (IA Z .int (List.replicate 16 0))) :: (va, (IA Z .int (a :: List.replicate 15 0))) :: (le, (LA Z ((0 : Int64) :: List.replicate 15 0))) :: (ss, (IA Z .byte (4 :: List.replicate 15 0))) :: (il, (ShAL Z (.int (0 : Int32)) dv (.int (0 : Int32)))) :: F) 0 #[.val (.ref t), .unset] []
  refine W.iconst (0 : Int32) d17_0 (pc' := 1) rfl rfl ?_
  refine W.istoreN #[.val (.ref t), .val (.int (0 : Int32))] d17_1 (pc' := 2) rfl rfl ?_
  refine W.iloadN d17_2 (pc' := 3) rfl rfl ?_
  refine W.aloadN d17_3 (pc' := 4) rfl rfl rfl ?_
  refine W.getF 0 11 d17_4 (host := "") (Or.inl (wd hw 144 rfl)) Via.refl rfl rfl (pc' := 7) rfl ?_
  refine W.icmpY d17_7 (by decide) (by decide) (pc' := 28) rfl ?_
  refine W.aloadN d17_28 (pc' := 29) rfl rfl rfl ?_
  refine W.aloadN d17_29 (pc' := 30) rfl rfl rfl ?_
  refine W.getF 0 9 d17_30 (host := "") (Or.inl (wd hw 93 rfl)) Via.refl rfl rfl (pc' := 33) rfl ?_
  refine W.putF ((t, (ShTS Z (.ref sl) (.ref ix) (.ref il) (.ref rv) (.int (1 : Int32)) (.ref va) (.ref le) (.ref ss) (.int (0 : Int32)) (.int (1 : Int32)) .null (.int (0 : Int32)) (.int (1 : Int32)) (.int (0 : Int32)))) :: (sl, (IA Z .int xs)) :: (rv, (IA Z .int (List.replicate 16 0))) :: (va, (IA Z .int (a :: List.replicate 15 0))) :: (le, (LA Z ((0 : Int64) :: List.replicate 15 0))) :: (ss, (IA Z .byte (4 :: List.replicate 15 0))) :: (il, (ShAL Z (.int (0 : Int32)) dv (.int (0 : Int32)))) :: F) 0 12 d17_33 (host := "") (Or.inl (wd hw 151 rfl)) Via.refl (Or.inl (wd hw 152 rfl)) (wd hw 1 rfl) (ty := .int) (by decide) rfl rfl rfl rfl rfl (pc' := 36) rfl ?_
  refine W.aloadN d17_36 (pc' := 37) rfl rfl rfl ?_
  refine W.iconst (0 : Int32) d17_37 (pc' := 38) rfl rfl ?_
  refine W.putF ((t, (ShTS Z (.ref sl) (.ref ix) (.ref il) (.ref rv) (.int (1 : Int32)) (.ref va) (.ref le) (.ref ss) (.int (0 : Int32)) (.int (1 : Int32)) .null (.int (0 : Int32)) (.int (1 : Int32)) (.int (0 : Int32)))) :: (sl, (IA Z .int xs)) :: (rv, (IA Z .int (List.replicate 16 0))) :: (va, (IA Z .int (a :: List.replicate 15 0))) :: (le, (LA Z ((0 : Int64) :: List.replicate 15 0))) :: (ss, (IA Z .byte (4 :: List.replicate 15 0))) :: (il, (ShAL Z (.int (0 : Int32)) dv (.int (0 : Int32)))) :: F) 0 11 d17_38 (host := "") (Or.inl (wd hw 144 rfl)) Via.refl (Or.inl (wd hw 145 rfl)) (wd hw 1 rfl) (ty := .int) (by decide) rfl rfl rfl rfl rfl (pc' := 41) rfl ?_
  refine W.aloadN d17_41 (pc' := 42) rfl rfl rfl ?_
  refine W.aloadN d17_42 (pc' := 43) rfl rfl rfl ?_
  refine W.getF 0 8 d17_43 (host := "") (Or.inl (wd hw 78 rfl)) Via.refl rfl rfl (pc' := 46) rfl ?_
  refine W.putF ((t, (ShTS Z (.ref sl) (.ref ix) (.ref il) (.ref rv) (.int (1 : Int32)) (.ref va) (.ref le) (.ref ss) (.int (0 : Int32)) (.int (1 : Int32)) .null (.int (0 : Int32)) (.int (1 : Int32)) (.int (0 : Int32)))) :: (sl, (IA Z .int xs)) :: (rv, (IA Z .int (List.replicate 16 0))) :: (va, (IA Z .int (a :: List.replicate 15 0))) :: (le, (LA Z ((0 : Int64) :: List.replicate 15 0))) :: (ss, (IA Z .byte (4 :: List.replicate 15 0))) :: (il, (ShAL Z (.int (0 : Int32)) dv (.int (0 : Int32)))) :: F) 0 13 d17_46 (host := "") (Or.inl (wd hw 153 rfl)) Via.refl (Or.inl (wd hw 154 rfl)) (wd hw 1 rfl) (ty := .int) (by decide) rfl rfl rfl rfl rfl (pc' := 49) rfl ?_
  exact W.retV d17_49 rfl (by decide) (by decide) ⟨rfl, rfl⟩
theorem pn_mBC14 : plainFor (⟨"com/example/mendb/mendb/TupleStore", "beginCommit", "()V"⟩ : MethodName) = true := by first | (refine plainFor_of_name ?_; simp [plainName, overriddenIn]; done) | (refine plainFor_of_name ?_; decide +kernel) | decide +kernel
set_option maxRecDepth 65536 in
set_option maxHeartbeats 40000000 in
theorem mBC14 (l : Launch) (Z : State) (n0 : Nat) (a0 : Array Value) (hw : ∀ d ∈ tables_1, d.before a0 Z = true) (F : Asn) (dv : Value) (hdr : dv.isRef = true) (t sl ix il rv va le ss : Addr) (a b : Int32) (xs : List Int32) : Sp l Z n0 (⟨"com/example/mendb/mendb/TupleStore", "beginCommit", "()V"⟩ : MethodName) prog_126_method_26_code 2 none ({ frames := 0, cells := 0, slots := 0, locals := 0 } : Room) [(.ref t)] ((t, (ShTS Z (.ref sl) (.ref ix) (.ref il) (.ref rv) (.int (1 : Int32)) (.ref va) (.ref le) (.ref ss) (.int (2 : Int32)) (.int (2 : Int32)) .null (.int (0 : Int32)) (.int (0 : Int32)) (.int (0 : Int32)))) :: (sl, (IA Z .int xs)) :: (rv, (IA Z .int (List.replicate 16 0))) :: (va, (IA Z .int (a :: b :: List.replicate 14 0))) :: (le, (LA Z ((0 : Int64) :: (0 : Int64) :: List.replicate 14 0))) :: (ss, (IA Z .byte (List.replicate 16 0))) :: (il, (ShAL Z (.int (0 : Int32)) dv (.int (0 : Int32)))) :: F) (Ret none ((t, (ShTS Z (.ref sl) (.ref ix) (.ref il) (.ref rv) (.int (1 : Int32)) (.ref va) (.ref le) (.ref ss) (.int (2 : Int32)) (.int (2 : Int32)) .null (.int (0 : Int32)) (.int (2 : Int32)) (.int (2 : Int32)))) :: (sl, (IA Z .int xs)) :: (rv, (IA Z .int (List.replicate 16 0))) :: (va, (IA Z .int (a :: b :: List.replicate 14 0))) :: (le, (LA Z ((0 : Int64) :: (0 : Int64) :: List.replicate 14 0))) :: (ss, (IA Z .byte (List.replicate 16 0))) :: (il, (ShAL Z (.int (0 : Int32)) dv (.int (0 : Int32)))) :: F)) := by
  refine Sp.of (ls := #[.val (.ref t), .unset]) pn_mBC14 (fun m => by first | (simp [entryFrame, mkF, argsToLocals, Value.category]; done) | rfl) ?_
  show W _ _ _ _ _ _ 0 0 ((t, (ShTS Z (.ref sl) (.ref ix) (.ref il) (.ref rv) (.int (1 : Int32)) (.ref va) (.ref le) (.ref ss) (.int (2 : Int32)) (.int (2 : Int32)) .null (.int (0 : Int32)) (.int (0 : Int32)) (.int (0 : Int32)))) :: (sl, (IA Z .int xs)) :: (rv, (IA Z .int (List.replicate 16 0))) :: (va, (IA Z .int (a :: b :: List.replicate 14 0))) :: (le, (LA Z ((0 : Int64) :: (0 : Int64) :: List.replicate 14 0))) :: (ss, (IA Z .byte (List.replicate 16 0))) :: (il, (ShAL Z (.int (0 : Int32)) dv (.int (0 : Int32)))) :: F) 0 #[.val (.ref t), .unset] []
  refine W.iconst (0 : Int32) d17_0 (pc' := 1) rfl rfl ?_
  refine W.istoreN #[.val (.ref t), .val (.int (0 : Int32))] d17_1 (pc' := 2) rfl rfl ?_
  refine W.iloadN d17_2 (pc' := 3) rfl rfl ?_
  refine W.aloadN d17_3 (pc' := 4) rfl rfl rfl ?_
  refine W.getF 0 11 d17_4 (host := "") (Or.inl (wd hw 144 rfl)) Via.refl rfl rfl (pc' := 7) rfl ?_
  refine W.icmpY d17_7 (by decide) (by decide) (pc' := 28) rfl ?_
  refine W.aloadN d17_28 (pc' := 29) rfl rfl rfl ?_
  refine W.aloadN d17_29 (pc' := 30) rfl rfl rfl ?_
  refine W.getF 0 9 d17_30 (host := "") (Or.inl (wd hw 93 rfl)) Via.refl rfl rfl (pc' := 33) rfl ?_
  refine W.putF ((t, (ShTS Z (.ref sl) (.ref ix) (.ref il) (.ref rv) (.int (1 : Int32)) (.ref va) (.ref le) (.ref ss) (.int (2 : Int32)) (.int (2 : Int32)) .null (.int (0 : Int32)) (.int (2 : Int32)) (.int (0 : Int32)))) :: (sl, (IA Z .int xs)) :: (rv, (IA Z .int (List.replicate 16 0))) :: (va, (IA Z .int (a :: b :: List.replicate 14 0))) :: (le, (LA Z ((0 : Int64) :: (0 : Int64) :: List.replicate 14 0))) :: (ss, (IA Z .byte (List.replicate 16 0))) :: (il, (ShAL Z (.int (0 : Int32)) dv (.int (0 : Int32)))) :: F) 0 12 d17_33 (host := "") (Or.inl (wd hw 151 rfl)) Via.refl (Or.inl (wd hw 152 rfl)) (wd hw 1 rfl) (ty := .int) (by decide) rfl rfl rfl rfl rfl (pc' := 36) rfl ?_
  refine W.aloadN d17_36 (pc' := 37) rfl rfl rfl ?_
  refine W.iconst (0 : Int32) d17_37 (pc' := 38) rfl rfl ?_
  refine W.putF ((t, (ShTS Z (.ref sl) (.ref ix) (.ref il) (.ref rv) (.int (1 : Int32)) (.ref va) (.ref le) (.ref ss) (.int (2 : Int32)) (.int (2 : Int32)) .null (.int (0 : Int32)) (.int (2 : Int32)) (.int (0 : Int32)))) :: (sl, (IA Z .int xs)) :: (rv, (IA Z .int (List.replicate 16 0))) :: (va, (IA Z .int (a :: b :: List.replicate 14 0))) :: (le, (LA Z ((0 : Int64) :: (0 : Int64) :: List.replicate 14 0))) :: (ss, (IA Z .byte (List.replicate 16 0))) :: (il, (ShAL Z (.int (0 : Int32)) dv (.int (0 : Int32)))) :: F) 0 11 d17_38 (host := "") (Or.inl (wd hw 144 rfl)) Via.refl (Or.inl (wd hw 145 rfl)) (wd hw 1 rfl) (ty := .int) (by decide) rfl rfl rfl rfl rfl (pc' := 41) rfl ?_
  refine W.aloadN d17_41 (pc' := 42) rfl rfl rfl ?_
  refine W.aloadN d17_42 (pc' := 43) rfl rfl rfl ?_
  refine W.getF 0 8 d17_43 (host := "") (Or.inl (wd hw 78 rfl)) Via.refl rfl rfl (pc' := 46) rfl ?_
  refine W.putF ((t, (ShTS Z (.ref sl) (.ref ix) (.ref il) (.ref rv) (.int (1 : Int32)) (.ref va) (.ref le) (.ref ss) (.int (2 : Int32)) (.int (2 : Int32)) .null (.int (0 : Int32)) (.int (2 : Int32)) (.int (2 : Int32)))) :: (sl, (IA Z .int xs)) :: (rv, (IA Z .int (List.replicate 16 0))) :: (va, (IA Z .int (a :: b :: List.replicate 14 0))) :: (le, (LA Z ((0 : Int64) :: (0 : Int64) :: List.replicate 14 0))) :: (ss, (IA Z .byte (List.replicate 16 0))) :: (il, (ShAL Z (.int (0 : Int32)) dv (.int (0 : Int32)))) :: F) 0 13 d17_46 (host := "") (Or.inl (wd hw 153 rfl)) Via.refl (Or.inl (wd hw 154 rfl)) (wd hw 1 rfl) (ty := .int) (by decide) rfl rfl rfl rfl rfl (pc' := 49) rfl ?_
  exact W.retV d17_49 rfl (by decide) (by decide) ⟨rfl, rfl⟩
theorem pn_mG15 : plainFor (⟨"com/example/mendb/mendb/TupleStore", "state", "(I)B"⟩ : MethodName) = true := by first | (refine plainFor_of_name ?_; simp [plainName, overriddenIn]; done) | (refine plainFor_of_name ?_; decide +kernel) | decide +kernel
set_option maxRecDepth 65536 in
set_option maxHeartbeats 40000000 in
theorem mG15 (l : Launch) (Z : State) (n0 : Nat) (a0 : Array Value) (hw : ∀ d ∈ tables_1, d.before a0 Z = true) (F : Asn) (dv : Value) (hdr : dv.isRef = true) (t sl ix il rv va le ss : Addr) (a b : Int32) (xs : List Int32) : Sp l Z n0 (⟨"com/example/mendb/mendb/TupleStore", "state", "(I)B"⟩ : MethodName) prog_126_method_14_code 2 (some .byte) ({ frames := 0, cells := 0, slots := 0, locals := 0 } : Room) [(.ref t), (.int (0 : Int32))] ((t, (ShTS Z (.ref sl) (.ref ix) (.ref il) (.ref rv) (.int (1 : Int32)) (.ref va) (.ref le) (.ref ss) (.int (2 : Int32)) (.int (2 : Int32)) .null (.int (0 : Int32)) (.int (2 : Int32)) (.int (2 : Int32)))) :: (sl, (IA Z .int xs)) :: (rv, (IA Z .int (List.replicate 16 0))) :: (va, (IA Z .int (a :: b :: List.replicate 14 0))) :: (le, (LA Z ((0 : Int64) :: (0 : Int64) :: List.replicate 14 0))) :: (ss, (IA Z .byte (List.replicate 16 0))) :: (il, (ShAL Z (.int (0 : Int32)) dv (.int (0 : Int32)))) :: F) (Ret (some (.int 0)) ((t, (ShTS Z (.ref sl) (.ref ix) (.ref il) (.ref rv) (.int (1 : Int32)) (.ref va) (.ref le) (.ref ss) (.int (2 : Int32)) (.int (2 : Int32)) .null (.int (0 : Int32)) (.int (2 : Int32)) (.int (2 : Int32)))) :: (sl, (IA Z .int xs)) :: (rv, (IA Z .int (List.replicate 16 0))) :: (va, (IA Z .int (a :: b :: List.replicate 14 0))) :: (le, (LA Z ((0 : Int64) :: (0 : Int64) :: List.replicate 14 0))) :: (ss, (IA Z .byte (List.replicate 16 0))) :: (il, (ShAL Z (.int (0 : Int32)) dv (.int (0 : Int32)))) :: F)) := by
  refine Sp.of (ls := #[.val (.ref t), .val (.int (0 : Int32))]) pn_mG15 (fun m => by first | (simp [entryFrame, mkF, argsToLocals, Value.category]; done) | rfl) ?_
  show W _ _ _ _ _ _ 0 0 ((t, (ShTS Z (.ref sl) (.ref ix) (.ref il) (.ref rv) (.int (1 : Int32)) (.ref va) (.ref le) (.ref ss) (.int (2 : Int32)) (.int (2 : Int32)) .null (.int (0 : Int32)) (.int (2 : Int32)) (.int (2 : Int32)))) :: (sl, (IA Z .int xs)) :: (rv, (IA Z .int (List.replicate 16 0))) :: (va, (IA Z .int (a :: b :: List.replicate 14 0))) :: (le, (LA Z ((0 : Int64) :: (0 : Int64) :: List.replicate 14 0))) :: (ss, (IA Z .byte (List.replicate 16 0))) :: (il, (ShAL Z (.int (0 : Int32)) dv (.int (0 : Int32)))) :: F) 0 #[.val (.ref t), .val (.int (0 : Int32))] []
  refine W.aloadN d18_0 (pc' := 1) rfl rfl rfl ?_
  refine W.getF 0 7 d18_1 (host := "") (Or.inl (wd hw 66 rfl)) Via.refl rfl rfl (pc' := 4) rfl ?_
  refine W.iloadN d18_4 (pc' := 5) rfl rfl ?_
  refine W.baload 5 0 (x := 0) d18_5 rfl (by decide) rfl rfl (pc' := 6) rfl ?_
  exact W.retN (t := .byte) 0 d18_6 rfl (by simp) rfl (by decide) (by decide) ⟨rfl, rfl⟩
theorem pn_mG16 : plainFor (⟨"com/example/mendb/mendb/TupleStore", "state", "(I)B"⟩ : MethodName) = true := by first | (refine plainFor_of_name ?_; simp [plainName, overriddenIn]; done) | (refine plainFor_of_name ?_; decide +kernel) | decide +kernel
set_option maxRecDepth 65536 in
set_option maxHeartbeats 40000000 in
theorem mG16 (l : Launch) (Z : State) (n0 : Nat) (a0 : Array Value) (hw : ∀ d ∈ tables_1, d.before a0 Z = true) (F : Asn) (dv : Value) (hdr : dv.isRef = true) (t sl ix il rv va le ss : Addr) (a b : Int32) (xs : List Int32) : Sp l Z n0 (⟨"com/example/mendb/mendb/TupleStore", "state", "(I)B"⟩ : MethodName) prog_126_method_14_code 2 (some .byte) ({ frames := 0, cells := 0, slots := 0, locals := 0 } : Room) [(.ref t), (.int (1 : Int32))] ((t, (ShTS Z (.ref sl) (.ref ix) (.ref il) (.ref rv) (.int (1 : Int32)) (.ref va) (.ref le) (.ref ss) (.int (2 : Int32)) (.int (2 : Int32)) .null (.int (0 : Int32)) (.int (2 : Int32)) (.int (2 : Int32)))) :: (sl, (IA Z .int xs)) :: (rv, (IA Z .int (List.replicate 16 0))) :: (va, (IA Z .int (a :: b :: List.replicate 14 0))) :: (le, (LA Z ((0 : Int64) :: (0 : Int64) :: List.replicate 14 0))) :: (ss, (IA Z .byte (List.replicate 16 0))) :: (il, (ShAL Z (.int (0 : Int32)) dv (.int (0 : Int32)))) :: F) (Ret (some (.int 0)) ((t, (ShTS Z (.ref sl) (.ref ix) (.ref il) (.ref rv) (.int (1 : Int32)) (.ref va) (.ref le) (.ref ss) (.int (2 : Int32)) (.int (2 : Int32)) .null (.int (0 : Int32)) (.int (2 : Int32)) (.int (2 : Int32)))) :: (sl, (IA Z .int xs)) :: (rv, (IA Z .int (List.replicate 16 0))) :: (va, (IA Z .int (a :: b :: List.replicate 14 0))) :: (le, (LA Z ((0 : Int64) :: (0 : Int64) :: List.replicate 14 0))) :: (ss, (IA Z .byte (List.replicate 16 0))) :: (il, (ShAL Z (.int (0 : Int32)) dv (.int (0 : Int32)))) :: F)) := by
  refine Sp.of (ls := #[.val (.ref t), .val (.int (1 : Int32))]) pn_mG16 (fun m => by first | (simp [entryFrame, mkF, argsToLocals, Value.category]; done) | rfl) ?_
  show W _ _ _ _ _ _ 0 0 ((t, (ShTS Z (.ref sl) (.ref ix) (.ref il) (.ref rv) (.int (1 : Int32)) (.ref va) (.ref le) (.ref ss) (.int (2 : Int32)) (.int (2 : Int32)) .null (.int (0 : Int32)) (.int (2 : Int32)) (.int (2 : Int32)))) :: (sl, (IA Z .int xs)) :: (rv, (IA Z .int (List.replicate 16 0))) :: (va, (IA Z .int (a :: b :: List.replicate 14 0))) :: (le, (LA Z ((0 : Int64) :: (0 : Int64) :: List.replicate 14 0))) :: (ss, (IA Z .byte (List.replicate 16 0))) :: (il, (ShAL Z (.int (0 : Int32)) dv (.int (0 : Int32)))) :: F) 0 #[.val (.ref t), .val (.int (1 : Int32))] []
  refine W.aloadN d18_0 (pc' := 1) rfl rfl rfl ?_
  refine W.getF 0 7 d18_1 (host := "") (Or.inl (wd hw 66 rfl)) Via.refl rfl rfl (pc' := 4) rfl ?_
  refine W.iloadN d18_4 (pc' := 5) rfl rfl ?_
  refine W.baload 5 1 (x := 0) d18_5 rfl (by decide) rfl rfl (pc' := 6) rfl ?_
  exact W.retN (t := .byte) 0 d18_6 rfl (by simp) rfl (by decide) (by decide) ⟨rfl, rfl⟩
theorem pn_mG17 : plainFor (⟨"com/example/mendb/mendb/TupleStore", "firstAdded", "()I"⟩ : MethodName) = true := by first | (refine plainFor_of_name ?_; simp [plainName, overriddenIn]; done) | (refine plainFor_of_name ?_; decide +kernel) | decide +kernel
set_option maxRecDepth 65536 in
set_option maxHeartbeats 40000000 in
theorem mG17 (l : Launch) (Z : State) (n0 : Nat) (a0 : Array Value) (hw : ∀ d ∈ tables_1, d.before a0 Z = true) (F : Asn) (dv : Value) (hdr : dv.isRef = true) (t sl ix il rv va le ss : Addr) (a b : Int32) (xs : List Int32) : Sp l Z n0 (⟨"com/example/mendb/mendb/TupleStore", "firstAdded", "()I"⟩ : MethodName) prog_126_method_27_code 1 (some .int) ({ frames := 0, cells := 0, slots := 0, locals := 0 } : Room) [(.ref t)] ((t, (ShTS Z (.ref sl) (.ref ix) (.ref il) (.ref rv) (.int (1 : Int32)) (.ref va) (.ref le) (.ref ss) (.int (2 : Int32)) (.int (2 : Int32)) .null (.int (0 : Int32)) (.int (2 : Int32)) (.int (2 : Int32)))) :: (sl, (IA Z .int xs)) :: (rv, (IA Z .int (List.replicate 16 0))) :: (va, (IA Z .int (a :: b :: List.replicate 14 0))) :: (le, (LA Z ((0 : Int64) :: (0 : Int64) :: List.replicate 14 0))) :: (ss, (IA Z .byte (List.replicate 16 0))) :: (il, (ShAL Z (.int (0 : Int32)) dv (.int (0 : Int32)))) :: F) (Ret (some (.int 2)) ((t, (ShTS Z (.ref sl) (.ref ix) (.ref il) (.ref rv) (.int (1 : Int32)) (.ref va) (.ref le) (.ref ss) (.int (2 : Int32)) (.int (2 : Int32)) .null (.int (0 : Int32)) (.int (2 : Int32)) (.int (2 : Int32)))) :: (sl, (IA Z .int xs)) :: (rv, (IA Z .int (List.replicate 16 0))) :: (va, (IA Z .int (a :: b :: List.replicate 14 0))) :: (le, (LA Z ((0 : Int64) :: (0 : Int64) :: List.replicate 14 0))) :: (ss, (IA Z .byte (List.replicate 16 0))) :: (il, (ShAL Z (.int (0 : Int32)) dv (.int (0 : Int32)))) :: F)) := by
  refine Sp.of (ls := #[.val (.ref t)]) pn_mG17 (fun m => by first | (simp [entryFrame, mkF, argsToLocals, Value.category]; done) | rfl) ?_
  show W _ _ _ _ _ _ 0 0 ((t, (ShTS Z (.ref sl) (.ref ix) (.ref il) (.ref rv) (.int (1 : Int32)) (.ref va) (.ref le) (.ref ss) (.int (2 : Int32)) (.int (2 : Int32)) .null (.int (0 : Int32)) (.int (2 : Int32)) (.int (2 : Int32)))) :: (sl, (IA Z .int xs)) :: (rv, (IA Z .int (List.replicate 16 0))) :: (va, (IA Z .int (a :: b :: List.replicate 14 0))) :: (le, (LA Z ((0 : Int64) :: (0 : Int64) :: List.replicate 14 0))) :: (ss, (IA Z .byte (List.replicate 16 0))) :: (il, (ShAL Z (.int (0 : Int32)) dv (.int (0 : Int32)))) :: F) 0 #[.val (.ref t)] []
  refine W.aloadN d19_0 (pc' := 1) rfl rfl rfl ?_
  refine W.getF 0 12 d19_1 (host := "") (Or.inl (wd hw 151 rfl)) Via.refl rfl rfl (pc' := 4) rfl ?_
  exact W.retI d19_4 rfl (by decide) (by decide) ⟨rfl, rfl⟩
theorem pn_mG18 : plainFor (⟨"com/example/mendb/mendb/TupleStore", "removedCount", "()I"⟩ : MethodName) = true := by first | (refine plainFor_of_name ?_; simp [plainName, overriddenIn]; done) | (refine plainFor_of_name ?_; decide +kernel) | decide +kernel
set_option maxRecDepth 65536 in
set_option maxHeartbeats 40000000 in
theorem mG18 (l : Launch) (Z : State) (n0 : Nat) (a0 : Array Value) (hw : ∀ d ∈ tables_1, d.before a0 Z = true) (F : Asn) (dv : Value) (hdr : dv.isRef = true) (t sl ix il rv va le ss : Addr) (a b : Int32) (xs : List Int32) : Sp l Z n0 (⟨"com/example/mendb/mendb/TupleStore", "removedCount", "()I"⟩ : MethodName) prog_126_method_28_code 1 (some .int) ({ frames := 0, cells := 0, slots := 0, locals := 0 } : Room) [(.ref t)] ((t, (ShTS Z (.ref sl) (.ref ix) (.ref il) (.ref rv) (.int (1 : Int32)) (.ref va) (.ref le) (.ref ss) (.int (2 : Int32)) (.int (2 : Int32)) .null (.int (0 : Int32)) (.int (2 : Int32)) (.int (2 : Int32)))) :: (sl, (IA Z .int xs)) :: (rv, (IA Z .int (List.replicate 16 0))) :: (va, (IA Z .int (a :: b :: List.replicate 14 0))) :: (le, (LA Z ((0 : Int64) :: (0 : Int64) :: List.replicate 14 0))) :: (ss, (IA Z .byte (List.replicate 16 0))) :: (il, (ShAL Z (.int (0 : Int32)) dv (.int (0 : Int32)))) :: F) (Ret (some (.int 0)) ((t, (ShTS Z (.ref sl) (.ref ix) (.ref il) (.ref rv) (.int (1 : Int32)) (.ref va) (.ref le) (.ref ss) (.int (2 : Int32)) (.int (2 : Int32)) .null (.int (0 : Int32)) (.int (2 : Int32)) (.int (2 : Int32)))) :: (sl, (IA Z .int xs)) :: (rv, (IA Z .int (List.replicate 16 0))) :: (va, (IA Z .int (a :: b :: List.replicate 14 0))) :: (le, (LA Z ((0 : Int64) :: (0 : Int64) :: List.replicate 14 0))) :: (ss, (IA Z .byte (List.replicate 16 0))) :: (il, (ShAL Z (.int (0 : Int32)) dv (.int (0 : Int32)))) :: F)) := by
  refine Sp.of (ls := #[.val (.ref t)]) pn_mG18 (fun m => by first | (simp [entryFrame, mkF, argsToLocals, Value.category]; done) | rfl) ?_
  show W _ _ _ _ _ _ 0 0 ((t, (ShTS Z (.ref sl) (.ref ix) (.ref il) (.ref rv) (.int (1 : Int32)) (.ref va) (.ref le) (.ref ss) (.int (2 : Int32)) (.int (2 : Int32)) .null (.int (0 : Int32)) (.int (2 : Int32)) (.int (2 : Int32)))) :: (sl, (IA Z .int xs)) :: (rv, (IA Z .int (List.replicate 16 0))) :: (va, (IA Z .int (a :: b :: List.replicate 14 0))) :: (le, (LA Z ((0 : Int64) :: (0 : Int64) :: List.replicate 14 0))) :: (ss, (IA Z .byte (List.replicate 16 0))) :: (il, (ShAL Z (.int (0 : Int32)) dv (.int (0 : Int32)))) :: F) 0 #[.val (.ref t)] []
  refine W.aloadN d20_0 (pc' := 1) rfl rfl rfl ?_
  refine W.getF 0 11 d20_1 (host := "") (Or.inl (wd hw 144 rfl)) Via.refl rfl rfl (pc' := 4) rfl ?_
  exact W.retI d20_4 rfl (by decide) (by decide) ⟨rfl, rfl⟩
theorem pn_mG19 : plainFor (⟨"com/example/mendb/mendb/TupleStore", "countAtStart", "()I"⟩ : MethodName) = true := by first | (refine plainFor_of_name ?_; simp [plainName, overriddenIn]; done) | (refine plainFor_of_name ?_; decide +kernel) | decide +kernel
set_option maxRecDepth 65536 in
set_option maxHeartbeats 40000000 in
theorem mG19 (l : Launch) (Z : State) (n0 : Nat) (a0 : Array Value) (hw : ∀ d ∈ tables_1, d.before a0 Z = true) (F : Asn) (dv : Value) (hdr : dv.isRef = true) (t sl ix il rv va le ss : Addr) (a b : Int32) (xs : List Int32) : Sp l Z n0 (⟨"com/example/mendb/mendb/TupleStore", "countAtStart", "()I"⟩ : MethodName) prog_126_method_18_code 1 (some .int) ({ frames := 0, cells := 0, slots := 0, locals := 0 } : Room) [(.ref t)] ((t, (ShTS Z (.ref sl) (.ref ix) (.ref il) (.ref rv) (.int (1 : Int32)) (.ref va) (.ref le) (.ref ss) (.int (2 : Int32)) (.int (2 : Int32)) .null (.int (0 : Int32)) (.int (2 : Int32)) (.int (2 : Int32)))) :: (sl, (IA Z .int xs)) :: (rv, (IA Z .int (List.replicate 16 0))) :: (va, (IA Z .int (a :: b :: List.replicate 14 0))) :: (le, (LA Z ((0 : Int64) :: (0 : Int64) :: List.replicate 14 0))) :: (ss, (IA Z .byte (List.replicate 16 0))) :: (il, (ShAL Z (.int (0 : Int32)) dv (.int (0 : Int32)))) :: F) (Ret (some (.int 2)) ((t, (ShTS Z (.ref sl) (.ref ix) (.ref il) (.ref rv) (.int (1 : Int32)) (.ref va) (.ref le) (.ref ss) (.int (2 : Int32)) (.int (2 : Int32)) .null (.int (0 : Int32)) (.int (2 : Int32)) (.int (2 : Int32)))) :: (sl, (IA Z .int xs)) :: (rv, (IA Z .int (List.replicate 16 0))) :: (va, (IA Z .int (a :: b :: List.replicate 14 0))) :: (le, (LA Z ((0 : Int64) :: (0 : Int64) :: List.replicate 14 0))) :: (ss, (IA Z .byte (List.replicate 16 0))) :: (il, (ShAL Z (.int (0 : Int32)) dv (.int (0 : Int32)))) :: F)) := by
  refine Sp.of (ls := #[.val (.ref t)]) pn_mG19 (fun m => by first | (simp [entryFrame, mkF, argsToLocals, Value.category]; done) | rfl) ?_
  show W _ _ _ _ _ _ 0 0 ((t, (ShTS Z (.ref sl) (.ref ix) (.ref il) (.ref rv) (.int (1 : Int32)) (.ref va) (.ref le) (.ref ss) (.int (2 : Int32)) (.int (2 : Int32)) .null (.int (0 : Int32)) (.int (2 : Int32)) (.int (2 : Int32)))) :: (sl, (IA Z .int xs)) :: (rv, (IA Z .int (List.replicate 16 0))) :: (va, (IA Z .int (a :: b :: List.replicate 14 0))) :: (le, (LA Z ((0 : Int64) :: (0 : Int64) :: List.replicate 14 0))) :: (ss, (IA Z .byte (List.replicate 16 0))) :: (il, (ShAL Z (.int (0 : Int32)) dv (.int (0 : Int32)))) :: F) 0 #[.val (.ref t)] []
  refine W.aloadN d21_0 (pc' := 1) rfl rfl rfl ?_
  refine W.getF 0 13 d21_1 (host := "") (Or.inl (wd hw 153 rfl)) Via.refl rfl rfl (pc' := 4) rfl ?_
  exact W.retI d21_4 rfl (by decide) (by decide) ⟨rfl, rfl⟩
theorem pn_mBC20 : plainFor (⟨"com/example/mendb/mendb/TupleStore", "beginCommit", "()V"⟩ : MethodName) = true := by first | (refine plainFor_of_name ?_; simp [plainName, overriddenIn]; done) | (refine plainFor_of_name ?_; decide +kernel) | decide +kernel
set_option maxRecDepth 65536 in
set_option maxHeartbeats 40000000 in
theorem mBC20 (l : Launch) (Z : State) (n0 : Nat) (a0 : Array Value) (hw : ∀ d ∈ tables_1, d.before a0 Z = true) (F : Asn) (dv : Value) (hdr : dv.isRef = true) (t sl ix il rv va le ss : Addr) (a b : Int32) (xs : List Int32) : Sp l Z n0 (⟨"com/example/mendb/mendb/TupleStore", "beginCommit", "()V"⟩ : MethodName) prog_126_method_26_code 2 none ({ frames := 0, cells := 0, slots := 0, locals := 0 } : Room) [(.ref t)] ((t, (ShTS Z (.ref sl) (.ref ix) (.ref il) (.ref rv) (.int (1 : Int32)) (.ref va) (.ref le) (.ref ss) (.int (2 : Int32)) (.int (2 : Int32)) .null (.int (0 : Int32)) (.int (2 : Int32)) (.int (2 : Int32)))) :: (sl, (IA Z .int xs)) :: (rv, (IA Z .int (List.replicate 16 0))) :: (va, (IA Z .int (a :: b :: List.replicate 14 0))) :: (le, (LA Z ((0 : Int64) :: (0 : Int64) :: List.replicate 14 0))) :: (ss, (IA Z .byte (List.replicate 16 0))) :: (il, (ShAL Z (.int (0 : Int32)) dv (.int (0 : Int32)))) :: F) (Ret none ((t, (ShTS Z (.ref sl) (.ref ix) (.ref il) (.ref rv) (.int (1 : Int32)) (.ref va) (.ref le) (.ref ss) (.int (2 : Int32)) (.int (2 : Int32)) .null (.int (0 : Int32)) (.int (2 : Int32)) (.int (2 : Int32)))) :: (sl, (IA Z .int xs)) :: (rv, (IA Z .int (List.replicate 16 0))) :: (va, (IA Z .int (a :: b :: List.replicate 14 0))) :: (le, (LA Z ((0 : Int64) :: (0 : Int64) :: List.replicate 14 0))) :: (ss, (IA Z .byte (List.replicate 16 0))) :: (il, (ShAL Z (.int (0 : Int32)) dv (.int (0 : Int32)))) :: F)) := by
  refine Sp.of (ls := #[.val (.ref t), .unset]) pn_mBC20 (fun m => by first | (simp [entryFrame, mkF, argsToLocals, Value.category]; done) | rfl) ?_
  show W _ _ _ _ _ _ 0 0 ((t, (ShTS Z (.ref sl) (.ref ix) (.ref il) (.ref rv) (.int (1 : Int32)) (.ref va) (.ref le) (.ref ss) (.int (2 : Int32)) (.int (2 : Int32)) .null (.int (0 : Int32)) (.int (2 : Int32)) (.int (2 : Int32)))) :: (sl, (IA Z .int xs)) :: (rv, (IA Z .int (List.replicate 16 0))) :: (va, (IA Z .int (a :: b :: List.replicate 14 0))) :: (le, (LA Z ((0 : Int64) :: (0 : Int64) :: List.replicate 14 0))) :: (ss, (IA Z .byte (List.replicate 16 0))) :: (il, (ShAL Z (.int (0 : Int32)) dv (.int (0 : Int32)))) :: F) 0 #[.val (.ref t), .unset] []
  refine W.iconst (0 : Int32) d17_0 (pc' := 1) rfl rfl ?_
  refine W.istoreN #[.val (.ref t), .val (.int (0 : Int32))] d17_1 (pc' := 2) rfl rfl ?_
  refine W.iloadN d17_2 (pc' := 3) rfl rfl ?_
  refine W.aloadN d17_3 (pc' := 4) rfl rfl rfl ?_
  refine W.getF 0 11 d17_4 (host := "") (Or.inl (wd hw 144 rfl)) Via.refl rfl rfl (pc' := 7) rfl ?_
  refine W.icmpY d17_7 (by decide) (by decide) (pc' := 28) rfl ?_
  refine W.aloadN d17_28 (pc' := 29) rfl rfl rfl ?_
  refine W.aloadN d17_29 (pc' := 30) rfl rfl rfl ?_
  refine W.getF 0 9 d17_30 (host := "") (Or.inl (wd hw 93 rfl)) Via.refl rfl rfl (pc' := 33) rfl ?_
  refine W.putF ((t, (ShTS Z (.ref sl) (.ref ix) (.ref il) (.ref rv) (.int (1 : Int32)) (.ref va) (.ref le) (.ref ss) (.int (2 : Int32)) (.int (2 : Int32)) .null (.int (0 : Int32)) (.int (2 : Int32)) (.int (2 : Int32)))) :: (sl, (IA Z .int xs)) :: (rv, (IA Z .int (List.replicate 16 0))) :: (va, (IA Z .int (a :: b :: List.replicate 14 0))) :: (le, (LA Z ((0 : Int64) :: (0 : Int64) :: List.replicate 14 0))) :: (ss, (IA Z .byte (List.replicate 16 0))) :: (il, (ShAL Z (.int (0 : Int32)) dv (.int (0 : Int32)))) :: F) 0 12 d17_33 (host := "") (Or.inl (wd hw 151 rfl)) Via.refl (Or.inl (wd hw 152 rfl)) (wd hw 1 rfl) (ty := .int) (by decide) rfl rfl rfl rfl rfl (pc' := 36) rfl ?_
  refine W.aloadN d17_36 (pc' := 37) rfl rfl rfl ?_
  refine W.iconst (0 : Int32) d17_37 (pc' := 38) rfl rfl ?_
  refine W.putF ((t, (ShTS Z (.ref sl) (.ref ix) (.ref il) (.ref rv) (.int (1 : Int32)) (.ref va) (.ref le) (.ref ss) (.int (2 : Int32)) (.int (2 : Int32)) .null (.int (0 : Int32)) (.int (2 : Int32)) (.int (2 : Int32)))) :: (sl, (IA Z .int xs)) :: (rv, (IA Z .int (List.replicate 16 0))) :: (va, (IA Z .int (a :: b :: List.replicate 14 0))) :: (le, (LA Z ((0 : Int64) :: (0 : Int64) :: List.replicate 14 0))) :: (ss, (IA Z .byte (List.replicate 16 0))) :: (il, (ShAL Z (.int (0 : Int32)) dv (.int (0 : Int32)))) :: F) 0 11 d17_38 (host := "") (Or.inl (wd hw 144 rfl)) Via.refl (Or.inl (wd hw 145 rfl)) (wd hw 1 rfl) (ty := .int) (by decide) rfl rfl rfl rfl rfl (pc' := 41) rfl ?_
  refine W.aloadN d17_41 (pc' := 42) rfl rfl rfl ?_
  refine W.aloadN d17_42 (pc' := 43) rfl rfl rfl ?_
  refine W.getF 0 8 d17_43 (host := "") (Or.inl (wd hw 78 rfl)) Via.refl rfl rfl (pc' := 46) rfl ?_
  refine W.putF ((t, (ShTS Z (.ref sl) (.ref ix) (.ref il) (.ref rv) (.int (1 : Int32)) (.ref va) (.ref le) (.ref ss) (.int (2 : Int32)) (.int (2 : Int32)) .null (.int (0 : Int32)) (.int (2 : Int32)) (.int (2 : Int32)))) :: (sl, (IA Z .int xs)) :: (rv, (IA Z .int (List.replicate 16 0))) :: (va, (IA Z .int (a :: b :: List.replicate 14 0))) :: (le, (LA Z ((0 : Int64) :: (0 : Int64) :: List.replicate 14 0))) :: (ss, (IA Z .byte (List.replicate 16 0))) :: (il, (ShAL Z (.int (0 : Int32)) dv (.int (0 : Int32)))) :: F) 0 13 d17_46 (host := "") (Or.inl (wd hw 153 rfl)) Via.refl (Or.inl (wd hw 154 rfl)) (wd hw 1 rfl) (ty := .int) (by decide) rfl rfl rfl rfl rfl (pc' := 49) rfl ?_
  exact W.retV d17_49 rfl (by decide) (by decide) ⟨rfl, rfl⟩
set_option maxRecDepth 65536 in
set_option maxHeartbeats 40000000 in
theorem remT21 (l : Launch) (Z : State) (n0 : Nat) (a0 : Array Value) (hw : ∀ d ∈ tables_1, d.before a0 Z = true) (F : Asn) (dv : Value) (hdr : dv.isRef = true) (t sl ix il rv va le ss : Addr) (a b : Int32) (xs : List Int32) (K : List Int32 → Prop) (p : Nat) (i3 i5 : Int32) (s6 : Slot) (hlx : xs.length = 32) (hp : p < 32) (hK : K (xs.set p 0)) : W l Z n0 ("com/example/mendb/mendb/TupleStore", "remove", prog_126_method_25_code, 7, none) ({ frames := 2, cells := 0, slots := 0, locals := 40 } : Room) (fun v σ' => v = none ∧ ∃ xs' : List Int32, xs'.length = 32 ∧ K xs' ∧ σ' = ((t, (ShTS Z (.ref sl) (.ref ix) (.ref il) (.ref rv) (.int (1 : Int32)) (.ref va) (.ref le) (.ref ss) (.int (1 : Int32)) (.int (2 : Int32)) .null (.int (1 : Int32)) (.int (0 : Int32)) (.int (0 : Int32)))) :: (sl, (IA Z .int xs')) :: (rv, (IA Z .int (1 :: List.replicate 15 0))) :: (va, (IA Z .int (a :: b :: List.replicate 14 0))) :: (le, (LA Z ((0 : Int64) :: (0 : Int64) :: List.replicate 14 0))) :: (ss, (IA Z .byte (0 :: 3 :: List.replicate 14 0))) :: (il, (ShAL Z (.int (0 : Int32)) dv (.int (0 : Int32)))) :: F)) 0 0 ((t, (ShTS Z (.ref sl) (.ref ix) (.ref il) (.ref rv) (.int (1 : Int32)) (.ref va) (.ref le) (.ref ss) (.int (2 : Int32)) (.int (2 : Int32)) .null (.int (0 : Int32)) (.int (0 : Int32)) (.int (0 : Int32)))) :: (sl, (IA Z .int xs)) :: (rv, (IA Z .int (List.replicate 16 0))) :: (va, (IA Z .int (a :: b :: List.replicate 14 0))) :: (le, (LA Z ((0 : Int64) :: (0 : Int64) :: List.replicate 14 0))) :: (ss, (IA Z .byte (List.replicate 16 0))) :: (il, (ShAL Z (.int (0 : Int32)) dv (.int (0 : Int32)))) :: F) 139 #[.val (.ref t), .val (.int (1 : Int32)), .val (.int (31 : Int32)), .val (.int i3), .val (.int (Int32.ofNat p)), .val (.int i5), s6] [] := by
  refine W.aloadN d16_139 (pc' := 140) rfl rfl rfl ?_
  refine W.getF 0 0 d16_140 (host := "") (Or.inl (wd hw 10 rfl)) Via.refl rfl rfl (pc' := 143) rfl ?_
  refine W.iload d16_143 (pc' := 145) rfl rfl ?_
  refine W.iconst (0 : Int32) d16_145 (pc' := 146) rfl rfl ?_
  refine W.iastore ((t, (ShTS Z (.ref sl) (.ref ix) (.ref il) (.ref rv) (.int (1 : Int32)) (.ref va) (.ref le) (.ref ss) (.int (2 : Int32)) (.int (2 : Int32)) .null (.int (0 : Int32)) (.int (0 : Int32)) (.int (0 : Int32)))) :: (sl, (IA Z .int (xs.set p 0))) :: (rv, (IA Z .int (List.replicate 16 0))) :: (va, (IA Z .int (a :: b :: List.replicate 14 0))) :: (le, (LA Z ((0 : Int64) :: (0 : Int64) :: List.replicate 14 0))) :: (ss, (IA Z .byte (List.replicate 16 0))) :: (il, (ShAL Z (.int (0 : Int32)) dv (.int (0 : Int32)))) :: F) 1 p d16_146 rfl (own_nn hp) (own_tn hp) (by rw [hlx]; exact hp) rfl (pc' := 147) rfl ?_
  refine W.aloadN d16_147 (pc' := 148) rfl rfl rfl ?_
  refine W.getF 0 7 d16_148 (host := "") (Or.inl (wd hw 66 rfl)) Via.refl rfl rfl (pc' := 151) rfl ?_
  refine W.iloadN d16_151 (pc' := 152) rfl rfl ?_
  refine W.iconst (3 : Int32) d16_152 (pc' := 153) rfl rfl ?_
  refine W.bastore ((t, (ShTS Z (.ref sl) (.ref ix) (.ref il) (.ref rv) (.int (1 : Int32)) (.ref va) (.ref le) (.ref ss) (.int (2 : Int32)) (.int (2 : Int32)) .null (.int (0 : Int32)) (.int (0 : Int32)) (.int (0 : Int32)))) :: (sl, (IA Z .int (xs.set p 0))) :: (rv, (IA Z .int (List.replicate 16 0))) :: (va, (IA Z .int (a :: b :: List.replicate 14 0))) :: (le, (LA Z ((0 : Int64) :: (0 : Int64) :: List.replicate 14 0))) :: (ss, (IA Z .byte (0 :: 3 :: List.replicate 14 0))) :: (il, (ShAL Z (.int (0 : Int32)) dv (.int (0 : Int32)))) :: F) 5 1 d16_153 rfl (by decide) rfl (Nat.le_of_ble_eq_true rfl) rfl (pc' := 154) rfl ?_
  refine W.aloadN d16_154 (pc' := 155) rfl rfl rfl ?_
  refine W.dup d16_155 (pc' := 156) rfl rfl ?_
  refine W.getF 0 8 d16_156 (host := "") (Or.inl (wd hw 78 rfl)) Via.refl rfl rfl (pc' := 159) rfl ?_
  refine W.iconst (1 : Int32) d16_159 (pc' := 160) rfl rfl ?_
  refine W.isub d16_160 (pc' := 161) rfl ?_
  refine W.topI (1 : Int32) (by decide) ?_
  refine W.putF ((t, (ShTS Z (.ref sl) (.ref ix) (.ref il) (.ref rv) (.int (1 : Int32)) (.ref va) (.ref le) (.ref ss) (.int (1 : Int32)) (.int (2 : Int32)) .null (.int (0 : Int32)) (.int (0 : Int32)) (.int (0 : Int32)))) :: (sl, (IA Z .int (xs.set p 0))) :: (rv, (IA Z .int (List.replicate 16 0))) :: (va, (IA Z .int (a :: b :: List.replicate 14 0))) :: (le, (LA Z ((0 : Int64) :: (0 : Int64) :: List.replicate 14 0))) :: (ss, (IA Z .byte (0 :: 3 :: List.replicate 14 0))) :: (il, (ShAL Z (.int (0 : Int32)) dv (.int (0 : Int32)))) :: F) 0 8 d16_161 (host := "") (Or.inl (wd hw 78 rfl)) Via.refl (Or.inl (wd hw 79 rfl)) (wd hw 1 rfl) (ty := .int) (by decide) rfl rfl rfl rfl rfl (pc' := 164) rfl ?_
  refine W.aloadN d16_164 (pc' := 165) rfl rfl rfl ?_
  refine W.getF 0 11 d16_165 (host := "") (Or.inl (wd hw 144 rfl)) Via.refl rfl rfl (pc' := 168) rfl ?_
  refine W.aloadN d16_168 (pc' := 169) rfl rfl rfl ?_
  refine W.getF 0 3 d16_169 (host := "") (Or.inl (wd hw 56 rfl)) Via.refl rfl rfl (pc' := 172) rfl ?_
  refine W.len 2 (16 : Int32) d16_172 rfl rfl (pc' := 173) rfl ?_
  refine W.icmpY d16_173 (by decide) (by decide) (pc' := 193) rfl ?_
  refine W.aloadN d16_193 (pc' := 194) rfl rfl rfl ?_
  refine W.getF 0 3 d16_194 (host := "") (Or.inl (wd hw 56 rfl)) Via.refl rfl rfl (pc' := 197) rfl ?_
  refine W.aloadN d16_197 (pc' := 198) rfl rfl rfl ?_
  refine W.getF 0 11 d16_198 (host := "") (Or.inl (wd hw 144 rfl)) Via.refl rfl rfl (pc' := 201) rfl ?_
  refine W.iloadN d16_201 (pc' := 202) rfl rfl ?_
  refine W.iastore ((t, (ShTS Z (.ref sl) (.ref ix) (.ref il) (.ref rv) (.int (1 : Int32)) (.ref va) (.ref le) (.ref ss) (.int (1 : Int32)) (.int (2 : Int32)) .null (.int (0 : Int32)) (.int (0 : Int32)) (.int (0 : Int32)))) :: (sl, (IA Z .int (xs.set p 0))) :: (rv, (IA Z .int (1 :: List.replicate 15 0))) :: (va, (IA Z .int (a :: b :: List.replicate 14 0))) :: (le, (LA Z ((0 : Int64) :: (0 : Int64) :: List.replicate 14 0))) :: (ss, (IA Z .byte (0 :: 3 :: List.replicate 14 0))) :: (il, (ShAL Z (.int (0 : Int32)) dv (.int (0 : Int32)))) :: F) 2 0 d16_202 rfl (by decide) rfl (Nat.le_of_ble_eq_true rfl) rfl (pc' := 203) rfl ?_
  refine W.aloadN d16_203 (pc' := 204) rfl rfl rfl ?_
  refine W.dup d16_204 (pc' := 205) rfl rfl ?_
  refine W.getF 0 11 d16_205 (host := "") (Or.inl (wd hw 144 rfl)) Via.refl rfl rfl (pc' := 208) rfl ?_
  refine W.iconst (1 : Int32) d16_208 (pc' := 209) rfl rfl ?_
  refine W.iadd d16_209 (pc' := 210) rfl ?_
  refine W.topI (1 : Int32) (by decide) ?_
  refine W.putF ((t, (ShTS Z (.ref sl) (.ref ix) (.ref il) (.ref rv) (.int (1 : Int32)) (.ref va) (.ref le) (.ref ss) (.int (1 : Int32)) (.int (2 : Int32)) .null (.int (1 : Int32)) (.int (0 : Int32)) (.int (0 : Int32)))) :: (sl, (IA Z .int (xs.set p 0))) :: (rv, (IA Z .int (1 :: List.replicate 15 0))) :: (va, (IA Z .int (a :: b :: List.replicate 14 0))) :: (le, (LA Z ((0 : Int64) :: (0 : Int64) :: List.replicate 14 0))) :: (ss, (IA Z .byte (0 :: 3 :: List.replicate 14 0))) :: (il, (ShAL Z (.int (0 : Int32)) dv (.int (0 : Int32)))) :: F) 0 11 d16_210 (host := "") (Or.inl (wd hw 144 rfl)) Via.refl (Or.inl (wd hw 145 rfl)) (wd hw 1 rfl) (ty := .int) (by decide) rfl rfl rfl rfl rfl (pc' := 213) rfl ?_
  exact W.retV d16_213 rfl (by decide) (by decide) ⟨rfl, _, by rw [List.length_set]; exact hlx, hK, rfl⟩
theorem pn_mRem22 : plainFor (⟨"com/example/mendb/mendb/TupleStore", "remove", "(I)V"⟩ : MethodName) = true := by first | (refine plainFor_of_name ?_; simp [plainName, overriddenIn]; done) | (refine plainFor_of_name ?_; decide +kernel) | decide +kernel
set_option maxRecDepth 65536 in
set_option maxHeartbeats 40000000 in
theorem mRem22 (l : Launch) (Z : State) (n0 : Nat) (a0 : Array Value) (hw : ∀ d ∈ tables_1, d.before a0 Z = true) (F : Asn) (dv : Value) (hdr : dv.isRef = true) (t sl ix il rv va le ss : Addr) (a b : Int32) : Sp l Z n0 (⟨"com/example/mendb/mendb/TupleStore", "remove", "(I)V"⟩ : MethodName) prog_126_method_25_code 7 none ({ frames := 2, cells := 0, slots := 0, locals := 40 } : Room) [(.ref t), (.int (1 : Int32))] ((t, (ShTS Z (.ref sl) (.ref ix) (.ref il) (.ref rv) (.int (1 : Int32)) (.ref va) (.ref le) (.ref ss) (.int (2 : Int32)) (.int (2 : Int32)) .null (.int (0 : Int32)) (.int (0 : Int32)) (.int (0 : Int32)))) :: (sl, (IA Z .int (own_two (own_s a) (own_pb a b)))) :: (rv, (IA Z .int (List.replicate 16 0))) :: (va, (IA Z .int (a :: b :: List.replicate 14 0))) :: (le, (LA Z ((0 : Int64) :: (0 : Int64) :: List.replicate 14 0))) :: (ss, (IA Z .byte (List.replicate 16 0))) :: (il, (ShAL Z (.int (0 : Int32)) dv (.int (0 : Int32)))) :: F) (fun v σ' => v = none ∧ ∃ xs' : List Int32, xs'.length = 32 ∧ (fun _ => True) xs' ∧ σ' = ((t, (ShTS Z (.ref sl) (.ref ix) (.ref il) (.ref rv) (.int (1 : Int32)) (.ref va) (.ref le) (.ref ss) (.int (1 : Int32)) (.int (2 : Int32)) .null (.int (1 : Int32)) (.int (0 : Int32)) (.int (0 : Int32)))) :: (sl, (IA Z .int xs')) :: (rv, (IA Z .int (1 :: List.replicate 15 0))) :: (va, (IA Z .int (a :: b :: List.replicate 14 0))) :: (le, (LA Z ((0 : Int64) :: (0 : Int64) :: List.replicate 14 0))) :: (ss, (IA Z .byte (0 :: 3 :: List.replicate 14 0))) :: (il, (ShAL Z (.int (0 : Int32)) dv (.int (0 : Int32)))) :: F)) := by
  refine Sp.of (ls := #[.val (.ref t), .val (.int (1 : Int32)), .unset, .unset, .unset, .unset, .unset]) pn_mRem22 (fun m => by first | (simp [entryFrame, mkF, argsToLocals, Value.category]; done) | rfl) ?_
  show W _ _ _ _ _ _ 0 0 ((t, (ShTS Z (.ref sl) (.ref ix) (.ref il) (.ref rv) (.int (1 : Int32)) (.ref va) (.ref le) (.ref ss) (.int (2 : Int32)) (.int (2 : Int32)) .null (.int (0 : Int32)) (.int (0 : Int32)) (.int (0 : Int32)))) :: (sl, (IA Z .int (own_two (own_s a) (own_pb a b)))) :: (rv, (IA Z .int (List.replicate 16 0))) :: (va, (IA Z .int (a :: b :: List.replicate 14 0))) :: (le, (LA Z ((0 : Int64) :: (0 : Int64) :: List.replicate 14 0))) :: (ss, (IA Z .byte (List.replicate 16 0))) :: (il, (ShAL Z (.int (0 : Int32)) dv (.int (0 : Int32)))) :: F) 0 #[.val (.ref t), .val (.int (1 : Int32)), .unset, .unset, .unset, .unset, .unset] []
  have la := own_s_lt a
  have lb := own_s_lt b
  have lp := own_pb_lt a b
  have np := own_pb_ne a b
  refine W.aloadN d16_0 (pc' := 1) rfl rfl rfl ?_
  refine W.getF 0 0 d16_1 (host := "") (Or.inl (wd hw 10 rfl)) Via.refl rfl rfl (pc' := 4) rfl ?_
  refine W.len 1 (32 : Int32) d16_4 rfl (by rw [own_two_len]; rfl) (pc' := 5) rfl ?_
  refine W.iconst (1 : Int32) d16_5 (pc' := 6) rfl rfl ?_
  refine W.isub d16_6 (pc' := 7) rfl ?_
  refine W.topI (31 : Int32) (by decide) ?_
  refine W.istoreN #[.val (.ref t), .val (.int (1 : Int32)), .val (.int (31 : Int32)), .unset, .unset, .unset, .unset] d16_7 (pc' := 8) rfl rfl ?_
  refine W.aloadN d16_8 (pc' := 9) rfl rfl rfl ?_
  refine W.aloadN d16_9 (pc' := 10) rfl rfl rfl ?_
  refine W.getF 0 5 d16_10 (host := "") (Or.inl (wd hw 60 rfl)) Via.refl rfl rfl (pc' := 13) rfl ?_
  refine W.iloadN d16_13 (pc' := 14) rfl rfl ?_
  refine W.aloadN d16_14 (pc' := 15) rfl rfl rfl ?_
  refine W.getF 0 4 d16_15 (host := "") (Or.inl (wd hw 58 rfl)) Via.refl rfl rfl (pc' := 18) rfl ?_
  refine W.imul d16_18 (pc' := 19) rfl ?_
  refine W.topI (1 : Int32) (by decide) ?_
  refine W.pulls ((t, (ShTS Z (.ref sl) (.ref ix) (.ref il) (.ref rv) (.int (1 : Int32)) (.ref va) (.ref le) (.ref ss) (.int (2 : Int32)) (.int (2 : Int32)) .null (.int (0 : Int32)) (.int (0 : Int32)) (.int (0 : Int32)))) :: (va, (IA Z .int (a :: b :: List.replicate 14 0))) :: (sl, (IA Z .int (own_two (own_s a) (own_pb a b)))) :: (rv, (IA Z .int (List.replicate 16 0))) :: (le, (LA Z ((0 : Int64) :: (0 : Int64) :: List.replicate 14 0))) :: (ss, (IA Z .byte (List.replicate 16 0))) :: (il, (ShAL Z (.int (0 : Int32)) dv (.int (0 : Int32)))) :: F) [3, 1] rfl ?_
  refine W.callP 0 rfl (mHash1 l Z n0 a0 hw ((sl, (IA Z .int (own_two (own_s a) (own_pb a b)))) :: (rv, (IA Z .int (List.replicate 16 0))) :: (le, (LA Z ((0 : Int64) :: (0 : Int64) :: List.replicate 14 0))) :: (ss, (IA Z .byte (List.replicate 16 0))) :: (il, (ShAL Z (.int (0 : Int32)) dv (.int (0 : Int32)))) :: F) t va (.ref sl) (.ref ix) (.ref il) (.ref rv) (.ref va) (.ref le) (.ref ss) (.int (2 : Int32)) (.int (2 : Int32)) .null (.int (0 : Int32)) (.int (0 : Int32)) (.int (0 : Int32)) (a :: b :: List.replicate 14 0) b rfl) d16_19 (wd hw 80 rfl) (wd hw 81 rfl) (wd hw 82 rfl) (wd hw 1 rfl) (wd hw 2 rfl) (wd hw 83 rfl) (by decide) pd6 rfl rfl (Nat.le_of_ble_eq_true rfl) (Nat.le_of_ble_eq_true rfl) (Nat.le_of_ble_eq_true rfl) (Nat.le_of_ble_eq_true rfl) rfl (pc' := 22) rfl ?_
  intro v9 s9 q9
  rw [q9.1, q9.2]
  clear q9 v9 s9
  show W _ _ _ _ _ _ 0 0 ((t, (ShTS Z (.ref sl) (.ref ix) (.ref il) (.ref rv) (.int (1 : Int32)) (.ref va) (.ref le) (.ref ss) (.int (2 : Int32)) (.int (2 : Int32)) .null (.int (0 : Int32)) (.int (0 : Int32)) (.int (0 : Int32)))) :: (va, (IA Z .int (a :: b :: List.replicate 14 0))) :: (sl, (IA Z .int (own_two (own_s a) (own_pb a b)))) :: (rv, (IA Z .int (List.replicate 16 0))) :: (le, (LA Z ((0 : Int64) :: (0 : Int64) :: List.replicate 14 0))) :: (ss, (IA Z .byte (List.replicate 16 0))) :: (il, (ShAL Z (.int (0 : Int32)) dv (.int (0 : Int32)))) :: F) 22 #[.val (.ref t), .val (.int (1 : Int32)), .val (.int (31 : Int32)), .unset, .unset, .unset, .unset] [(.int (own_h b))]
  refine W.iloadN d16_22 (pc' := 23) rfl rfl ?_
  refine W.iand d16_23 (pc' := 24) rfl ?_
  refine W.topI (Int32.ofNat (own_s b)) (own_slot b) ?_
  refine W.pulls ((t, (ShTS Z (.ref sl) (.ref ix) (.ref il) (.ref rv) (.int (1 : Int32)) (.ref va) (.ref le) (.ref ss) (.int (2 : Int32)) (.int (2 : Int32)) .null (.int (0 : Int32)) (.int (0 : Int32)) (.int (0 : Int32)))) :: (sl, (IA Z .int (own_two (own_s a) (own_pb a b)))) :: (rv, (IA Z .int (List.replicate 16 0))) :: (va, (IA Z .int (a :: b :: List.replicate 14 0))) :: (le, (LA Z ((0 : Int64) :: (0 : Int64) :: List.replicate 14 0))) :: (ss, (IA Z .byte (List.replicate 16 0))) :: (il, (ShAL Z (.int (0 : Int32)) dv (.int (0 : Int32)))) :: F) [3, 3, 2] rfl ?_
  refine W.istoreN #[.val (.ref t), .val (.int (1 : Int32)), .val (.int (31 : Int32)), .val (.int (Int32.ofNat (own_s b))), .unset, .unset, .unset] d16_24 (pc' := 25) rfl rfl ?_
  refine W.aloadN d16_25 (pc' := 26) rfl rfl rfl ?_
  refine W.getF 0 0 d16_26 (host := "") (Or.inl (wd hw 10 rfl)) Via.refl rfl rfl (pc' := 29) rfl ?_
  refine W.iloadN d16_29 (pc' := 30) rfl rfl ?_
  have j46 : W l Z n0 ("com/example/mendb/mendb/TupleStore", "remove", prog_126_method_25_code, 7, none) ({ frames := 2, cells := 0, slots := 0, locals := 40 } : Room) (fun v σ' => v = none ∧ ∃ xs' : List Int32, xs'.length = 32 ∧ (fun _ => True) xs' ∧ σ' = ((t, (ShTS Z (.ref sl) (.ref ix) (.ref il) (.ref rv) (.int (1 : Int32)) (.ref va) (.ref le) (.ref ss) (.int (1 : Int32)) (.int (2 : Int32)) .null (.int (1 : Int32)) (.int (0 : Int32)) (.int (0 : Int32)))) :: (sl, (IA Z .int xs')) :: (rv, (IA Z .int (1 :: List.replicate 15 0))) :: (va, (IA Z .int (a :: b :: List.replicate 14 0))) :: (le, (LA Z ((0 : Int64) :: (0 : Int64) :: List.replicate 14 0))) :: (ss, (IA Z .byte (0 :: 3 :: List.replicate 14 0))) :: (il, (ShAL Z (.int (0 : Int32)) dv (.int (0 : Int32)))) :: F)) 0 0 ((t, (ShTS Z (.ref sl) (.ref ix) (.ref il) (.ref rv) (.int (1 : Int32)) (.ref va) (.ref le) (.ref ss) (.int (2 : Int32)) (.int (2 : Int32)) .null (.int (0 : Int32)) (.int (0 : Int32)) (.int (0 : Int32)))) :: (sl, (IA Z .int (own_two (own_s a) (own_pb a b)))) :: (rv, (IA Z .int (List.replicate 16 0))) :: (va, (IA Z .int (a :: b :: List.replicate 14 0))) :: (le, (LA Z ((0 : Int64) :: (0 : Int64) :: List.replicate 14 0))) :: (ss, (IA Z .byte (List.replicate 16 0))) :: (il, (ShAL Z (.int (0 : Int32)) dv (.int (0 : Int32)))) :: F) 46 #[.val (.ref t), .val (.int (1 : Int32)), .val (.int (31 : Int32)), .val (.int (Int32.ofNat (own_pb a b))), .unset, .unset, .unset] [] := by
    refine W.iloadN d16_46 (pc' := 47) rfl rfl ?_
    refine W.istore #[.val (.ref t), .val (.int (1 : Int32)), .val (.int (31 : Int32)), .val (.int (Int32.ofNat (own_pb a b))), .val (.int (Int32.ofNat (own_pb a b))), .unset, .unset] d16_47 (pc' := 49) rfl rfl ?_
    refine W.iload d16_49 (pc' := 51) rfl rfl ?_
    refine W.iconst (1 : Int32) d16_51 (pc' := 52) rfl rfl ?_
    refine W.iadd d16_52 (pc' := 53) rfl ?_
    refine W.iloadN d16_53 (pc' := 54) rfl rfl ?_
    refine W.iand d16_54 (pc' := 55) rfl ?_
    refine W.topI (Int32.ofNat ((own_pb a b + 1) % 32)) (own_inc (p := own_pb a b) (by omega)) ?_
    refine W.istore #[.val (.ref t), .val (.int (1 : Int32)), .val (.int (31 : Int32)), .val (.int (Int32.ofNat (own_pb a b))), .val (.int (Int32.ofNat (own_pb a b))), .val (.int (Int32.ofNat ((own_pb a b + 1) % 32))), .unset] d16_55 (pc' := 57) rfl rfl ?_
    refine W.aloadN d16_57 (pc' := 58) rfl rfl rfl ?_
    refine W.getF 0 0 d16_58 (host := "") (Or.inl (wd hw 10 rfl)) Via.refl rfl rfl (pc' := 61) rfl ?_
    refine W.iload d16_61 (pc' := 63) rfl rfl ?_
    by_cases hn : own_s a = ((own_pb a b + 1) % 32)
    · refine W.iaload 1 (((own_pb a b + 1) % 32)) (x := 1) d16_63 rfl (own_nn (by omega)) (own_tn (by omega)) (by rw [own_two_at (by omega), if_neg (by omega), if_pos hn]) (pc' := 64) rfl ?_
      refine W.ifN d16_64 (by decide) (pc' := 67) rfl ?_
      refine W.aloadN d16_67 (pc' := 68) rfl rfl rfl ?_
      refine W.aloadN d16_68 (pc' := 69) rfl rfl rfl ?_
      refine W.getF 0 5 d16_69 (host := "") (Or.inl (wd hw 60 rfl)) Via.refl rfl rfl (pc' := 72) rfl ?_
      refine W.aloadN d16_72 (pc' := 73) rfl rfl rfl ?_
      refine W.getF 0 0 d16_73 (host := "") (Or.inl (wd hw 10 rfl)) Via.refl rfl rfl (pc' := 76) rfl ?_
      refine W.iload d16_76 (pc' := 78) rfl rfl ?_
      refine W.iaload 1 (((own_pb a b + 1) % 32)) (x := 1) d16_78 rfl (own_nn (by omega)) (own_tn (by omega)) (by rw [own_two_at (by omega), if_neg (by omega), if_pos hn]) (pc' := 79) rfl ?_
      refine W.iconst (1 : Int32) d16_79 (pc' := 80) rfl rfl ?_
      refine W.isub d16_80 (pc' := 81) rfl ?_
      refine W.topI (0 : Int32) (by decide) ?_
      refine W.aloadN d16_81 (pc' := 82) rfl rfl rfl ?_
      refine W.getF 0 4 d16_82 (host := "") (Or.inl (wd hw 58 rfl)) Via.refl rfl rfl (pc' := 85) rfl ?_
      refine W.imul d16_85 (pc' := 86) rfl ?_
      refine W.topI (0 : Int32) (by decide) ?_
      refine W.pulls ((t, (ShTS Z (.ref sl) (.ref ix) (.ref il) (.ref rv) (.int (1 : Int32)) (.ref va) (.ref le) (.ref ss) (.int (2 : Int32)) (.int (2 : Int32)) .null (.int (0 : Int32)) (.int (0 : Int32)) (.int (0 : Int32)))) :: (va, (IA Z .int (a :: b :: List.replicate 14 0))) :: (sl, (IA Z .int (own_two (own_s a) (own_pb a b)))) :: (rv, (IA Z .int (List.replicate 16 0))) :: (le, (LA Z ((0 : Int64) :: (0 : Int64) :: List.replicate 14 0))) :: (ss, (IA Z .byte (List.replicate 16 0))) :: (il, (ShAL Z (.int (0 : Int32)) dv (.int (0 : Int32)))) :: F) [3, 1] rfl ?_
      refine W.callP 0 rfl (mHash0 l Z n0 a0 hw ((sl, (IA Z .int (own_two (own_s a) (own_pb a b)))) :: (rv, (IA Z .int (List.replicate 16 0))) :: (le, (LA Z ((0 : Int64) :: (0 : Int64) :: List.replicate 14 0))) :: (ss, (IA Z .byte (List.replicate 16 0))) :: (il, (ShAL Z (.int (0 : Int32)) dv (.int (0 : Int32)))) :: F) t va (.ref sl) (.ref ix) (.ref il) (.ref rv) (.ref va) (.ref le) (.ref ss) (.int (2 : Int32)) (.int (2 : Int32)) .null (.int (0 : Int32)) (.int (0 : Int32)) (.int (0 : Int32)) (a :: b :: List.replicate 14 0) a rfl) d16_86 (wd hw 80 rfl) (wd hw 81 rfl) (wd hw 82 rfl) (wd hw 1 rfl) (wd hw 2 rfl) (wd hw 83 rfl) (by decide) pd6 rfl rfl (Nat.le_of_ble_eq_true rfl) (Nat.le_of_ble_eq_true rfl) (Nat.le_of_ble_eq_true rfl) (Nat.le_of_ble_eq_true rfl) rfl (pc' := 89) rfl ?_
      intro v9 s9 q9
      rw [q9.1, q9.2]
      clear q9 v9 s9
      show W _ _ _ _ _ _ 0 0 ((t, (ShTS Z (.ref sl) (.ref ix) (.ref il) (.ref rv) (.int (1 : Int32)) (.ref va) (.ref le) (.ref ss) (.int (2 : Int32)) (.int (2 : Int32)) .null (.int (0 : Int32)) (.int (0 : Int32)) (.int (0 : Int32)))) :: (va, (IA Z .int (a :: b :: List.replicate 14 0))) :: (sl, (IA Z .int (own_two (own_s a) (own_pb a b)))) :: (rv, (IA Z .int (List.replicate 16 0))) :: (le, (LA Z ((0 : Int64) :: (0 : Int64) :: List.replicate 14 0))) :: (ss, (IA Z .byte (List.replicate 16 0))) :: (il, (ShAL Z (.int (0 : Int32)) dv (.int (0 : Int32)))) :: F) 89 #[.val (.ref t), .val (.int (1 : Int32)), .val (.int (31 : Int32)), .val (.int (Int32.ofNat (own_pb a b))), .val (.int (Int32.ofNat (own_pb a b))), .val (.int (Int32.ofNat ((own_pb a b + 1) % 32))), .unset] [(.int (own_h a))]
      refine W.iloadN d16_89 (pc' := 90) rfl rfl ?_
      refine W.iand d16_90 (pc' := 91) rfl ?_
      refine W.topI (Int32.ofNat (own_s a)) (own_slot a) ?_
      refine W.pulls ((t, (ShTS Z (.ref sl) (.ref ix) (.ref il) (.ref rv) (.int (1 : Int32)) (.ref va) (.ref le) (.ref ss) (.int (2 : Int32)) (.int (2 : Int32)) .null (.int (0 : Int32)) (.int (0 : Int32)) (.int (0 : Int32)))) :: (sl, (IA Z .int (own_two (own_s a) (own_pb a b)))) :: (rv, (IA Z .int (List.replicate 16 0))) :: (va, (IA Z .int (a :: b :: List.replicate 14 0))) :: (le, (LA Z ((0 : Int64) :: (0 : Int64) :: List.replicate 14 0))) :: (ss, (IA Z .byte (List.replicate 16 0))) :: (il, (ShAL Z (.int (0 : Int32)) dv (.int (0 : Int32)))) :: F) [3, 3, 2] rfl ?_
      refine W.topI (Int32.ofNat ((own_pb a b + 1) % 32)) (congrArg Int32.ofNat hn) ?_
      refine W.istore #[.val (.ref t), .val (.int (1 : Int32)), .val (.int (31 : Int32)), .val (.int (Int32.ofNat (own_pb a b))), .val (.int (Int32.ofNat (own_pb a b))), .val (.int (Int32.ofNat ((own_pb a b + 1) % 32))), .val (.int (Int32.ofNat ((own_pb a b + 1) % 32)))] d16_91 (pc' := 93) rfl rfl ?_
      refine W.iload d16_93 (pc' := 95) rfl rfl ?_
      refine W.iload d16_95 (pc' := 97) rfl rfl ?_
      refine W.isub d16_97 (pc' := 98) rfl ?_
      refine W.iloadN d16_98 (pc' := 99) rfl rfl ?_
      refine W.iand d16_99 (pc' := 100) rfl ?_
      refine W.topI (0 : Int32) (own_d0 (p := ((own_pb a b + 1) % 32)) (by omega)) ?_
      refine W.iload d16_100 (pc' := 102) rfl rfl ?_
      refine W.iload d16_102 (pc' := 104) rfl rfl ?_
      refine W.isub d16_104 (pc' := 105) rfl ?_
      refine W.iloadN d16_105 (pc' := 106) rfl rfl ?_
      refine W.iand d16_106 (pc' := 107) rfl ?_
      refine W.topI (1 : Int32) (own_d1 lp) ?_
      refine W.icmpY d16_107 (by decide) (by decide) (pc' := 128) rfl ?_
      refine W.iload d16_128 (pc' := 130) rfl rfl ?_
      refine W.iconst (1 : Int32) d16_130 (pc' := 131) rfl rfl ?_
      refine W.iadd d16_131 (pc' := 132) rfl ?_
      refine W.iloadN d16_132 (pc' := 133) rfl rfl ?_
      refine W.iand d16_133 (pc' := 134) rfl ?_
      refine W.topI (Int32.ofNat ((((own_pb a b + 1) % 32) + 1) % 32)) (own_inc (p := ((own_pb a b + 1) % 32)) (by omega)) ?_
      refine W.istore #[.val (.ref t), .val (.int (1 : Int32)), .val (.int (31 : Int32)), .val (.int (Int32.ofNat (own_pb a b))), .val (.int (Int32.ofNat (own_pb a b))), .val (.int (Int32.ofNat ((((own_pb a b + 1) % 32) + 1) % 32))), .val (.int (Int32.ofNat ((own_pb a b + 1) % 32)))] d16_134 (pc' := 136) rfl rfl ?_
      refine W.goto d16_136 (pc' := 57) (by decide) rfl ?_
      refine W.aloadN d16_57 (pc' := 58) rfl rfl rfl ?_
      refine W.getF 0 0 d16_58 (host := "") (Or.inl (wd hw 10 rfl)) Via.refl rfl rfl (pc' := 61) rfl ?_
      refine W.iload d16_61 (pc' := 63) rfl rfl ?_
      refine W.iaload 1 ((((own_pb a b + 1) % 32) + 1) % 32) (x := 0) d16_63 rfl (own_nn (by omega)) (own_tn (by omega)) (by rw [own_two_at (by omega), if_neg (by omega), if_neg (by omega)]) (pc' := 64) rfl ?_
      refine W.ifY d16_64 (by decide) (by decide) (pc' := 139) rfl ?_
      exact remT21 l Z n0 a0 hw F dv hdr t sl ix il rv va le ss a b (own_two (own_s a) (own_pb a b)) (fun _ => True) (own_pb a b) _ _ _ (own_two_len _ _) (by omega) trivial
    · refine W.iaload 1 (((own_pb a b + 1) % 32)) (x := 0) d16_63 rfl (own_nn (by omega)) (own_tn (by omega)) (by rw [own_two_at (by omega), if_neg (by omega), if_neg hn]) (pc' := 64) rfl ?_
      refine W.ifY d16_64 (by decide) (by decide) (pc' := 139) rfl ?_
      exact remT21 l Z n0 a0 hw F dv hdr t sl ix il rv va le ss a b (own_two (own_s a) (own_pb a b)) (fun _ => True) (own_pb a b) _ _ _ (own_two_len _ _) (by omega) trivial
  by_cases hs : own_s b = own_s a
  · have hsb : own_pb a b = (own_s b + 1) % 32 := by unfold own_pb; rw [if_pos hs, hs]
    refine W.iaload 1 (own_s b) (x := 1) d16_30 rfl (own_nn (by omega)) (own_tn (by omega)) (by rw [own_two_at lb, if_neg (by omega), if_pos hs.symm]) (pc' := 31) rfl ?_
    refine W.iloadN d16_31 (pc' := 32) rfl rfl ?_
    refine W.iconst (1 : Int32) d16_32 (pc' := 33) rfl rfl ?_
    refine W.iadd d16_33 (pc' := 34) rfl ?_
    refine W.topI (2 : Int32) (by decide) ?_
    refine W.icmpN d16_34 (by decide) (pc' := 37) rfl ?_
    refine W.iloadN d16_37 (pc' := 38) rfl rfl ?_
    refine W.iconst (1 : Int32) d16_38 (pc' := 39) rfl rfl ?_
    refine W.iadd d16_39 (pc' := 40) rfl ?_
    refine W.iloadN d16_40 (pc' := 41) rfl rfl ?_
    refine W.iand d16_41 (pc' := 42) rfl ?_
    refine W.topI (Int32.ofNat ((own_s b + 1) % 32)) (own_inc (p := own_s b) (by omega)) ?_
    refine W.istoreN #[.val (.ref t), .val (.int (1 : Int32)), .val (.int (31 : Int32)), .val (.int (Int32.ofNat ((own_s b + 1) % 32))), .unset, .unset, .unset] d16_42 (pc' := 43) rfl rfl ?_
    refine W.goto d16_43 (pc' := 25) (by decide) rfl ?_
    refine W.aloadN d16_25 (pc' := 26) rfl rfl rfl ?_
    refine W.getF 0 0 d16_26 (host := "") (Or.inl (wd hw 10 rfl)) Via.refl rfl rfl (pc' := 29) rfl ?_
    refine W.iloadN d16_29 (pc' := 30) rfl rfl ?_
    refine W.iaload 1 ((own_s b + 1) % 32) (x := 2) d16_30 rfl (own_nn (by omega)) (own_tn (by omega)) (by rw [own_two_at (by omega), if_pos hsb]) (pc' := 31) rfl ?_
    refine W.iloadN d16_31 (pc' := 32) rfl rfl ?_
    refine W.iconst (1 : Int32) d16_32 (pc' := 33) rfl rfl ?_
    refine W.iadd d16_33 (pc' := 34) rfl ?_
    refine W.topI (2 : Int32) (by decide) ?_
    refine W.icmpY d16_34 (by decide) (by decide) (pc' := 46) rfl ?_
    rw [← hsb]
    exact j46
  · have hsb : own_pb a b = own_s b := by unfold own_pb; rw [if_neg hs]
    rw [hsb] at j46
    refine W.iaload 1 (own_s b) (x := 2) d16_30 rfl (own_nn (by omega)) (own_tn (by omega)) (by rw [own_two_at lb, if_pos hsb]) (pc' := 31) rfl ?_
    refine W.iloadN d16_31 (pc' := 32) rfl rfl ?_
    refine W.iconst (1 : Int32) d16_32 (pc' := 33) rfl rfl ?_
    refine W.iadd d16_33 (pc' := 34) rfl ?_
    refine W.topI (2 : Int32) (by decide) ?_
    refine W.icmpY d16_34 (by decide) (by decide) (pc' := 46) rfl ?_
    rw [hsb]
    exact j46
theorem pn_mBC23 : plainFor (⟨"com/example/mendb/mendb/TupleStore", "beginCommit", "()V"⟩ : MethodName) = true := by first | (refine plainFor_of_name ?_; simp [plainName, overriddenIn]; done) | (refine plainFor_of_name ?_; decide +kernel) | decide +kernel
set_option maxRecDepth 65536 in
set_option maxHeartbeats 40000000 in
theorem mBC23 (l : Launch) (Z : State) (n0 : Nat) (a0 : Array Value) (hw : ∀ d ∈ tables_1, d.before a0 Z = true) (F : Asn) (dv : Value) (hdr : dv.isRef = true) (t sl ix il rv va le ss : Addr) (a b : Int32) (xs : List Int32) : Sp l Z n0 (⟨"com/example/mendb/mendb/TupleStore", "beginCommit", "()V"⟩ : MethodName) prog_126_method_26_code 2 none ({ frames := 0, cells := 0, slots := 0, locals := 0 } : Room) [(.ref t)] ((t, (ShTS Z (.ref sl) (.ref ix) (.ref il) (.ref rv) (.int (1 : Int32)) (.ref va) (.ref le) (.ref ss) (.int (1 : Int32)) (.int (2 : Int32)) .null (.int (1 : Int32)) (.int (0 : Int32)) (.int (0 : Int32)))) :: (sl, (IA Z .int xs)) :: (rv, (IA Z .int (1 :: List.replicate 15 0))) :: (va, (IA Z .int (a :: b :: List.replicate 14 0))) :: (le, (LA Z ((0 : Int64) :: (0 : Int64) :: List.replicate 14 0))) :: (ss, (IA Z .byte (0 :: 3 :: List.replicate 14 0))) :: (il, (ShAL Z (.int (0 : Int32)) dv (.int (0 : Int32)))) :: F) (Ret none ((t, (ShTS Z (.ref sl) (.ref ix) (.ref il) (.ref rv) (.int (1 : Int32)) (.ref va) (.ref le) (.ref ss) (.int (1 : Int32)) (.int (2 : Int32)) .null (.int (0 : Int32)) (.int (2 : Int32)) (.int (1 : Int32)))) :: (sl, (IA Z .int xs)) :: (rv, (IA Z .int (1 :: List.replicate 15 0))) :: (va, (IA Z .int (a :: b :: List.replicate 14 0))) :: (le, (LA Z ((0 : Int64) :: (0 : Int64) :: List.replicate 14 0))) :: (ss, (IA Z .byte (0 :: 4 :: List.replicate 14 0))) :: (il, (ShAL Z (.int (0 : Int32)) dv (.int (0 : Int32)))) :: F)) := by
  refine Sp.of (ls := #[.val (.ref t), .unset]) pn_mBC23 (fun m => by first | (simp [entryFrame, mkF, argsToLocals, Value.category]; done) | rfl) ?_
  show W _ _ _ _ _ _ 0 0 ((t, (ShTS Z (.ref sl) (.ref ix) (.ref il) (.ref rv) (.int (1 : Int32)) (.ref va) (.ref le) (.ref ss) (.int (1 : Int32)) (.int (2 : Int32)) .null (.int (1 : Int32)) (.int (0 : Int32)) (.int (0 : Int32)))) :: (sl, (IA Z .int xs)) :: (rv, (IA Z .int (1 :: List.replicate 15 0))) :: (va, (IA Z .int (a :: b :: List.replicate 14 0))) :: (le, (LA Z ((0 : Int64) :: (0 : Int64) :: List.replicate 14 0))) :: (ss, (IA Z .byte (0 :: 3 :: List.replicate 14 0))) :: (il, (ShAL Z (.int (0 : Int32)) dv (.int (0 : Int32)))) :: F) 0 #[.val (.ref t), .unset] []
  refine W.iconst (0 : Int32) d17_0 (pc' := 1) rfl rfl ?_
  refine W.istoreN #[.val (.ref t), .val (.int (0 : Int32))] d17_1 (pc' := 2) rfl rfl ?_
  refine W.iloadN d17_2 (pc' := 3) rfl rfl ?_
  refine W.aloadN d17_3 (pc' := 4) rfl rfl rfl ?_
  refine W.getF 0 11 d17_4 (host := "") (Or.inl (wd hw 144 rfl)) Via.refl rfl rfl (pc' := 7) rfl ?_
  refine W.icmpN d17_7 (by decide) (pc' := 10) rfl ?_
  refine W.aloadN d17_10 (pc' := 11) rfl rfl rfl ?_
  refine W.getF 0 7 d17_11 (host := "") (Or.inl (wd hw 66 rfl)) Via.refl rfl rfl (pc' := 14) rfl ?_
  refine W.aloadN d17_14 (pc' := 15) rfl rfl rfl ?_
  refine W.getF 0 3 d17_15 (host := "") (Or.inl (wd hw 56 rfl)) Via.refl rfl rfl (pc' := 18) rfl ?_
  refine W.iloadN d17_18 (pc' := 19) rfl rfl ?_
  refine W.iaload 2 0 (x := 1) d17_19 rfl (by decide) rfl rfl (pc' := 20) rfl ?_
  refine W.iconst (4 : Int32) d17_20 (pc' := 21) rfl rfl ?_
  refine W.bastore ((t, (ShTS Z (.ref sl) (.ref ix) (.ref il) (.ref rv) (.int (1 : Int32)) (.ref va) (.ref le) (.ref ss) (.int (1 : Int32)) (.int (2 : Int32)) .null (.int (1 : Int32)) (.int (0 : Int32)) (.int (0 : Int32)))) :: (sl, (IA Z .int xs)) :: (rv, (IA Z .int (1 :: List.replicate 15 0))) :: (va, (IA Z .int (a :: b :: List.replicate 14 0))) :: (le, (LA Z ((0 : Int64) :: (0 : Int64) :: List.replicate 14 0))) :: (ss, (IA Z .byte (0 :: 4 :: List.replicate 14 0))) :: (il, (ShAL Z (.int (0 : Int32)) dv (.int (0 : Int32)))) :: F) 5 1 d17_21 rfl (by decide) rfl (Nat.le_of_ble_eq_true rfl) rfl (pc' := 22) rfl ?_
  refine W.iinc #[.val (.ref t), .val (.int (1 : Int32))] (1 : Int32) (1 : Int32) d17_22 (pc' := 25) rfl rfl rfl (by decide) rfl ?_
  refine W.goto d17_25 (pc' := 2) (by decide) rfl ?_
  refine W.iloadN d17_2 (pc' := 3) rfl rfl ?_
  refine W.aloadN d17_3 (pc' := 4) rfl rfl rfl ?_
  refine W.getF 0 11 d17_4 (host := "") (Or.inl (wd hw 144 rfl)) Via.refl rfl rfl (pc' := 7) rfl ?_
  refine W.icmpY d17_7 (by decide) (by decide) (pc' := 28) rfl ?_
  refine W.aloadN d17_28 (pc' := 29) rfl rfl rfl ?_
  refine W.aloadN d17_29 (pc' := 30) rfl rfl rfl ?_
  refine W.getF 0 9 d17_30 (host := "") (Or.inl (wd hw 93 rfl)) Via.refl rfl rfl (pc' := 33) rfl ?_
  refine W.putF ((t, (ShTS Z (.ref sl) (.ref ix) (.ref il) (.ref rv) (.int (1 : Int32)) (.ref va) (.ref le) (.ref ss) (.int (1 : Int32)) (.int (2 : Int32)) .null (.int (1 : Int32)) (.int (2 : Int32)) (.int (0 : Int32)))) :: (sl, (IA Z .int xs)) :: (rv, (IA Z .int (1 :: List.replicate 15 0))) :: (va, (IA Z .int (a :: b :: List.replicate 14 0))) :: (le, (LA Z ((0 : Int64) :: (0 : Int64) :: List.replicate 14 0))) :: (ss, (IA Z .byte (0 :: 4 :: List.replicate 14 0))) :: (il, (ShAL Z (.int (0 : Int32)) dv (.int (0 : Int32)))) :: F) 0 12 d17_33 (host := "") (Or.inl (wd hw 151 rfl)) Via.refl (Or.inl (wd hw 152 rfl)) (wd hw 1 rfl) (ty := .int) (by decide) rfl rfl rfl rfl rfl (pc' := 36) rfl ?_
  refine W.aloadN d17_36 (pc' := 37) rfl rfl rfl ?_
  refine W.iconst (0 : Int32) d17_37 (pc' := 38) rfl rfl ?_
  refine W.putF ((t, (ShTS Z (.ref sl) (.ref ix) (.ref il) (.ref rv) (.int (1 : Int32)) (.ref va) (.ref le) (.ref ss) (.int (1 : Int32)) (.int (2 : Int32)) .null (.int (0 : Int32)) (.int (2 : Int32)) (.int (0 : Int32)))) :: (sl, (IA Z .int xs)) :: (rv, (IA Z .int (1 :: List.replicate 15 0))) :: (va, (IA Z .int (a :: b :: List.replicate 14 0))) :: (le, (LA Z ((0 : Int64) :: (0 : Int64) :: List.replicate 14 0))) :: (ss, (IA Z .byte (0 :: 4 :: List.replicate 14 0))) :: (il, (ShAL Z (.int (0 : Int32)) dv (.int (0 : Int32)))) :: F) 0 11 d17_38 (host := "") (Or.inl (wd hw 144 rfl)) Via.refl (Or.inl (wd hw 145 rfl)) (wd hw 1 rfl) (ty := .int) (by decide) rfl rfl rfl rfl rfl (pc' := 41) rfl ?_
  refine W.aloadN d17_41 (pc' := 42) rfl rfl rfl ?_
  refine W.aloadN d17_42 (pc' := 43) rfl rfl rfl ?_
  refine W.getF 0 8 d17_43 (host := "") (Or.inl (wd hw 78 rfl)) Via.refl rfl rfl (pc' := 46) rfl ?_
  refine W.putF ((t, (ShTS Z (.ref sl) (.ref ix) (.ref il) (.ref rv) (.int (1 : Int32)) (.ref va) (.ref le) (.ref ss) (.int (1 : Int32)) (.int (2 : Int32)) .null (.int (0 : Int32)) (.int (2 : Int32)) (.int (1 : Int32)))) :: (sl, (IA Z .int xs)) :: (rv, (IA Z .int (1 :: List.replicate 15 0))) :: (va, (IA Z .int (a :: b :: List.replicate 14 0))) :: (le, (LA Z ((0 : Int64) :: (0 : Int64) :: List.replicate 14 0))) :: (ss, (IA Z .byte (0 :: 4 :: List.replicate 14 0))) :: (il, (ShAL Z (.int (0 : Int32)) dv (.int (0 : Int32)))) :: F) 0 13 d17_46 (host := "") (Or.inl (wd hw 153 rfl)) Via.refl (Or.inl (wd hw 154 rfl)) (wd hw 1 rfl) (ty := .int) (by decide) rfl rfl rfl rfl rfl (pc' := 49) rfl ?_
  exact W.retV d17_49 rfl (by decide) (by decide) ⟨rfl, rfl⟩
theorem pn_mG24 : plainFor (⟨"com/example/mendb/mendb/TupleStore", "state", "(I)B"⟩ : MethodName) = true := by first | (refine plainFor_of_name ?_; simp [plainName, overriddenIn]; done) | (refine plainFor_of_name ?_; decide +kernel) | decide +kernel
set_option maxRecDepth 65536 in
set_option maxHeartbeats 40000000 in
theorem mG24 (l : Launch) (Z : State) (n0 : Nat) (a0 : Array Value) (hw : ∀ d ∈ tables_1, d.before a0 Z = true) (F : Asn) (dv : Value) (hdr : dv.isRef = true) (t sl ix il rv va le ss : Addr) (a b : Int32) (xs : List Int32) : Sp l Z n0 (⟨"com/example/mendb/mendb/TupleStore", "state", "(I)B"⟩ : MethodName) prog_126_method_14_code 2 (some .byte) ({ frames := 0, cells := 0, slots := 0, locals := 0 } : Room) [(.ref t), (.int (0 : Int32))] ((t, (ShTS Z (.ref sl) (.ref ix) (.ref il) (.ref rv) (.int (1 : Int32)) (.ref va) (.ref le) (.ref ss) (.int (1 : Int32)) (.int (2 : Int32)) .null (.int (0 : Int32)) (.int (2 : Int32)) (.int (1 : Int32)))) :: (sl, (IA Z .int xs)) :: (rv, (IA Z .int (1 :: List.replicate 15 0))) :: (va, (IA Z .int (a :: b :: List.replicate 14 0))) :: (le, (LA Z ((0 : Int64) :: (0 : Int64) :: List.replicate 14 0))) :: (ss, (IA Z .byte (0 :: 4 :: List.replicate 14 0))) :: (il, (ShAL Z (.int (0 : Int32)) dv (.int (0 : Int32)))) :: F) (Ret (some (.int 0)) ((t, (ShTS Z (.ref sl) (.ref ix) (.ref il) (.ref rv) (.int (1 : Int32)) (.ref va) (.ref le) (.ref ss) (.int (1 : Int32)) (.int (2 : Int32)) .null (.int (0 : Int32)) (.int (2 : Int32)) (.int (1 : Int32)))) :: (sl, (IA Z .int xs)) :: (rv, (IA Z .int (1 :: List.replicate 15 0))) :: (va, (IA Z .int (a :: b :: List.replicate 14 0))) :: (le, (LA Z ((0 : Int64) :: (0 : Int64) :: List.replicate 14 0))) :: (ss, (IA Z .byte (0 :: 4 :: List.replicate 14 0))) :: (il, (ShAL Z (.int (0 : Int32)) dv (.int (0 : Int32)))) :: F)) := by
  refine Sp.of (ls := #[.val (.ref t), .val (.int (0 : Int32))]) pn_mG24 (fun m => by first | (simp [entryFrame, mkF, argsToLocals, Value.category]; done) | rfl) ?_
  show W _ _ _ _ _ _ 0 0 ((t, (ShTS Z (.ref sl) (.ref ix) (.ref il) (.ref rv) (.int (1 : Int32)) (.ref va) (.ref le) (.ref ss) (.int (1 : Int32)) (.int (2 : Int32)) .null (.int (0 : Int32)) (.int (2 : Int32)) (.int (1 : Int32)))) :: (sl, (IA Z .int xs)) :: (rv, (IA Z .int (1 :: List.replicate 15 0))) :: (va, (IA Z .int (a :: b :: List.replicate 14 0))) :: (le, (LA Z ((0 : Int64) :: (0 : Int64) :: List.replicate 14 0))) :: (ss, (IA Z .byte (0 :: 4 :: List.replicate 14 0))) :: (il, (ShAL Z (.int (0 : Int32)) dv (.int (0 : Int32)))) :: F) 0 #[.val (.ref t), .val (.int (0 : Int32))] []
  refine W.aloadN d18_0 (pc' := 1) rfl rfl rfl ?_
  refine W.getF 0 7 d18_1 (host := "") (Or.inl (wd hw 66 rfl)) Via.refl rfl rfl (pc' := 4) rfl ?_
  refine W.iloadN d18_4 (pc' := 5) rfl rfl ?_
  refine W.baload 5 0 (x := 0) d18_5 rfl (by decide) rfl rfl (pc' := 6) rfl ?_
  exact W.retN (t := .byte) 0 d18_6 rfl (by simp) rfl (by decide) (by decide) ⟨rfl, rfl⟩
theorem pn_mG25 : plainFor (⟨"com/example/mendb/mendb/TupleStore", "state", "(I)B"⟩ : MethodName) = true := by first | (refine plainFor_of_name ?_; simp [plainName, overriddenIn]; done) | (refine plainFor_of_name ?_; decide +kernel) | decide +kernel
set_option maxRecDepth 65536 in
set_option maxHeartbeats 40000000 in
theorem mG25 (l : Launch) (Z : State) (n0 : Nat) (a0 : Array Value) (hw : ∀ d ∈ tables_1, d.before a0 Z = true) (F : Asn) (dv : Value) (hdr : dv.isRef = true) (t sl ix il rv va le ss : Addr) (a b : Int32) (xs : List Int32) : Sp l Z n0 (⟨"com/example/mendb/mendb/TupleStore", "state", "(I)B"⟩ : MethodName) prog_126_method_14_code 2 (some .byte) ({ frames := 0, cells := 0, slots := 0, locals := 0 } : Room) [(.ref t), (.int (1 : Int32))] ((t, (ShTS Z (.ref sl) (.ref ix) (.ref il) (.ref rv) (.int (1 : Int32)) (.ref va) (.ref le) (.ref ss) (.int (1 : Int32)) (.int (2 : Int32)) .null (.int (0 : Int32)) (.int (2 : Int32)) (.int (1 : Int32)))) :: (sl, (IA Z .int xs)) :: (rv, (IA Z .int (1 :: List.replicate 15 0))) :: (va, (IA Z .int (a :: b :: List.replicate 14 0))) :: (le, (LA Z ((0 : Int64) :: (0 : Int64) :: List.replicate 14 0))) :: (ss, (IA Z .byte (0 :: 4 :: List.replicate 14 0))) :: (il, (ShAL Z (.int (0 : Int32)) dv (.int (0 : Int32)))) :: F) (Ret (some (.int 4)) ((t, (ShTS Z (.ref sl) (.ref ix) (.ref il) (.ref rv) (.int (1 : Int32)) (.ref va) (.ref le) (.ref ss) (.int (1 : Int32)) (.int (2 : Int32)) .null (.int (0 : Int32)) (.int (2 : Int32)) (.int (1 : Int32)))) :: (sl, (IA Z .int xs)) :: (rv, (IA Z .int (1 :: List.replicate 15 0))) :: (va, (IA Z .int (a :: b :: List.replicate 14 0))) :: (le, (LA Z ((0 : Int64) :: (0 : Int64) :: List.replicate 14 0))) :: (ss, (IA Z .byte (0 :: 4 :: List.replicate 14 0))) :: (il, (ShAL Z (.int (0 : Int32)) dv (.int (0 : Int32)))) :: F)) := by
  refine Sp.of (ls := #[.val (.ref t), .val (.int (1 : Int32))]) pn_mG25 (fun m => by first | (simp [entryFrame, mkF, argsToLocals, Value.category]; done) | rfl) ?_
  show W _ _ _ _ _ _ 0 0 ((t, (ShTS Z (.ref sl) (.ref ix) (.ref il) (.ref rv) (.int (1 : Int32)) (.ref va) (.ref le) (.ref ss) (.int (1 : Int32)) (.int (2 : Int32)) .null (.int (0 : Int32)) (.int (2 : Int32)) (.int (1 : Int32)))) :: (sl, (IA Z .int xs)) :: (rv, (IA Z .int (1 :: List.replicate 15 0))) :: (va, (IA Z .int (a :: b :: List.replicate 14 0))) :: (le, (LA Z ((0 : Int64) :: (0 : Int64) :: List.replicate 14 0))) :: (ss, (IA Z .byte (0 :: 4 :: List.replicate 14 0))) :: (il, (ShAL Z (.int (0 : Int32)) dv (.int (0 : Int32)))) :: F) 0 #[.val (.ref t), .val (.int (1 : Int32))] []
  refine W.aloadN d18_0 (pc' := 1) rfl rfl rfl ?_
  refine W.getF 0 7 d18_1 (host := "") (Or.inl (wd hw 66 rfl)) Via.refl rfl rfl (pc' := 4) rfl ?_
  refine W.iloadN d18_4 (pc' := 5) rfl rfl ?_
  refine W.baload 5 1 (x := 4) d18_5 rfl (by decide) rfl rfl (pc' := 6) rfl ?_
  exact W.retN (t := .byte) 4 d18_6 rfl (by simp) rfl (by decide) (by decide) ⟨rfl, rfl⟩
theorem pn_mG26 : plainFor (⟨"com/example/mendb/mendb/TupleStore", "firstAdded", "()I"⟩ : MethodName) = true := by first | (refine plainFor_of_name ?_; simp [plainName, overriddenIn]; done) | (refine plainFor_of_name ?_; decide +kernel) | decide +kernel
set_option maxRecDepth 65536 in
set_option maxHeartbeats 40000000 in
theorem mG26 (l : Launch) (Z : State) (n0 : Nat) (a0 : Array Value) (hw : ∀ d ∈ tables_1, d.before a0 Z = true) (F : Asn) (dv : Value) (hdr : dv.isRef = true) (t sl ix il rv va le ss : Addr) (a b : Int32) (xs : List Int32) : Sp l Z n0 (⟨"com/example/mendb/mendb/TupleStore", "firstAdded", "()I"⟩ : MethodName) prog_126_method_27_code 1 (some .int) ({ frames := 0, cells := 0, slots := 0, locals := 0 } : Room) [(.ref t)] ((t, (ShTS Z (.ref sl) (.ref ix) (.ref il) (.ref rv) (.int (1 : Int32)) (.ref va) (.ref le) (.ref ss) (.int (1 : Int32)) (.int (2 : Int32)) .null (.int (0 : Int32)) (.int (2 : Int32)) (.int (1 : Int32)))) :: (sl, (IA Z .int xs)) :: (rv, (IA Z .int (1 :: List.replicate 15 0))) :: (va, (IA Z .int (a :: b :: List.replicate 14 0))) :: (le, (LA Z ((0 : Int64) :: (0 : Int64) :: List.replicate 14 0))) :: (ss, (IA Z .byte (0 :: 4 :: List.replicate 14 0))) :: (il, (ShAL Z (.int (0 : Int32)) dv (.int (0 : Int32)))) :: F) (Ret (some (.int 2)) ((t, (ShTS Z (.ref sl) (.ref ix) (.ref il) (.ref rv) (.int (1 : Int32)) (.ref va) (.ref le) (.ref ss) (.int (1 : Int32)) (.int (2 : Int32)) .null (.int (0 : Int32)) (.int (2 : Int32)) (.int (1 : Int32)))) :: (sl, (IA Z .int xs)) :: (rv, (IA Z .int (1 :: List.replicate 15 0))) :: (va, (IA Z .int (a :: b :: List.replicate 14 0))) :: (le, (LA Z ((0 : Int64) :: (0 : Int64) :: List.replicate 14 0))) :: (ss, (IA Z .byte (0 :: 4 :: List.replicate 14 0))) :: (il, (ShAL Z (.int (0 : Int32)) dv (.int (0 : Int32)))) :: F)) := by
  refine Sp.of (ls := #[.val (.ref t)]) pn_mG26 (fun m => by first | (simp [entryFrame, mkF, argsToLocals, Value.category]; done) | rfl) ?_
  show W _ _ _ _ _ _ 0 0 ((t, (ShTS Z (.ref sl) (.ref ix) (.ref il) (.ref rv) (.int (1 : Int32)) (.ref va) (.ref le) (.ref ss) (.int (1 : Int32)) (.int (2 : Int32)) .null (.int (0 : Int32)) (.int (2 : Int32)) (.int (1 : Int32)))) :: (sl, (IA Z .int xs)) :: (rv, (IA Z .int (1 :: List.replicate 15 0))) :: (va, (IA Z .int (a :: b :: List.replicate 14 0))) :: (le, (LA Z ((0 : Int64) :: (0 : Int64) :: List.replicate 14 0))) :: (ss, (IA Z .byte (0 :: 4 :: List.replicate 14 0))) :: (il, (ShAL Z (.int (0 : Int32)) dv (.int (0 : Int32)))) :: F) 0 #[.val (.ref t)] []
  refine W.aloadN d19_0 (pc' := 1) rfl rfl rfl ?_
  refine W.getF 0 12 d19_1 (host := "") (Or.inl (wd hw 151 rfl)) Via.refl rfl rfl (pc' := 4) rfl ?_
  exact W.retI d19_4 rfl (by decide) (by decide) ⟨rfl, rfl⟩
theorem pn_mG27 : plainFor (⟨"com/example/mendb/mendb/TupleStore", "removedCount", "()I"⟩ : MethodName) = true := by first | (refine plainFor_of_name ?_; simp [plainName, overriddenIn]; done) | (refine plainFor_of_name ?_; decide +kernel) | decide +kernel
set_option maxRecDepth 65536 in
set_option maxHeartbeats 40000000 in
theorem mG27 (l : Launch) (Z : State) (n0 : Nat) (a0 : Array Value) (hw : ∀ d ∈ tables_1, d.before a0 Z = true) (F : Asn) (dv : Value) (hdr : dv.isRef = true) (t sl ix il rv va le ss : Addr) (a b : Int32) (xs : List Int32) : Sp l Z n0 (⟨"com/example/mendb/mendb/TupleStore", "removedCount", "()I"⟩ : MethodName) prog_126_method_28_code 1 (some .int) ({ frames := 0, cells := 0, slots := 0, locals := 0 } : Room) [(.ref t)] ((t, (ShTS Z (.ref sl) (.ref ix) (.ref il) (.ref rv) (.int (1 : Int32)) (.ref va) (.ref le) (.ref ss) (.int (1 : Int32)) (.int (2 : Int32)) .null (.int (0 : Int32)) (.int (2 : Int32)) (.int (1 : Int32)))) :: (sl, (IA Z .int xs)) :: (rv, (IA Z .int (1 :: List.replicate 15 0))) :: (va, (IA Z .int (a :: b :: List.replicate 14 0))) :: (le, (LA Z ((0 : Int64) :: (0 : Int64) :: List.replicate 14 0))) :: (ss, (IA Z .byte (0 :: 4 :: List.replicate 14 0))) :: (il, (ShAL Z (.int (0 : Int32)) dv (.int (0 : Int32)))) :: F) (Ret (some (.int 0)) ((t, (ShTS Z (.ref sl) (.ref ix) (.ref il) (.ref rv) (.int (1 : Int32)) (.ref va) (.ref le) (.ref ss) (.int (1 : Int32)) (.int (2 : Int32)) .null (.int (0 : Int32)) (.int (2 : Int32)) (.int (1 : Int32)))) :: (sl, (IA Z .int xs)) :: (rv, (IA Z .int (1 :: List.replicate 15 0))) :: (va, (IA Z .int (a :: b :: List.replicate 14 0))) :: (le, (LA Z ((0 : Int64) :: (0 : Int64) :: List.replicate 14 0))) :: (ss, (IA Z .byte (0 :: 4 :: List.replicate 14 0))) :: (il, (ShAL Z (.int (0 : Int32)) dv (.int (0 : Int32)))) :: F)) := by
  refine Sp.of (ls := #[.val (.ref t)]) pn_mG27 (fun m => by first | (simp [entryFrame, mkF, argsToLocals, Value.category]; done) | rfl) ?_
  show W _ _ _ _ _ _ 0 0 ((t, (ShTS Z (.ref sl) (.ref ix) (.ref il) (.ref rv) (.int (1 : Int32)) (.ref va) (.ref le) (.ref ss) (.int (1 : Int32)) (.int (2 : Int32)) .null (.int (0 : Int32)) (.int (2 : Int32)) (.int (1 : Int32)))) :: (sl, (IA Z .int xs)) :: (rv, (IA Z .int (1 :: List.replicate 15 0))) :: (va, (IA Z .int (a :: b :: List.replicate 14 0))) :: (le, (LA Z ((0 : Int64) :: (0 : Int64) :: List.replicate 14 0))) :: (ss, (IA Z .byte (0 :: 4 :: List.replicate 14 0))) :: (il, (ShAL Z (.int (0 : Int32)) dv (.int (0 : Int32)))) :: F) 0 #[.val (.ref t)] []
  refine W.aloadN d20_0 (pc' := 1) rfl rfl rfl ?_
  refine W.getF 0 11 d20_1 (host := "") (Or.inl (wd hw 144 rfl)) Via.refl rfl rfl (pc' := 4) rfl ?_
  exact W.retI d20_4 rfl (by decide) (by decide) ⟨rfl, rfl⟩
theorem pn_mG28 : plainFor (⟨"com/example/mendb/mendb/TupleStore", "countAtStart", "()I"⟩ : MethodName) = true := by first | (refine plainFor_of_name ?_; simp [plainName, overriddenIn]; done) | (refine plainFor_of_name ?_; decide +kernel) | decide +kernel
set_option maxRecDepth 65536 in
set_option maxHeartbeats 40000000 in
theorem mG28 (l : Launch) (Z : State) (n0 : Nat) (a0 : Array Value) (hw : ∀ d ∈ tables_1, d.before a0 Z = true) (F : Asn) (dv : Value) (hdr : dv.isRef = true) (t sl ix il rv va le ss : Addr) (a b : Int32) (xs : List Int32) : Sp l Z n0 (⟨"com/example/mendb/mendb/TupleStore", "countAtStart", "()I"⟩ : MethodName) prog_126_method_18_code 1 (some .int) ({ frames := 0, cells := 0, slots := 0, locals := 0 } : Room) [(.ref t)] ((t, (ShTS Z (.ref sl) (.ref ix) (.ref il) (.ref rv) (.int (1 : Int32)) (.ref va) (.ref le) (.ref ss) (.int (1 : Int32)) (.int (2 : Int32)) .null (.int (0 : Int32)) (.int (2 : Int32)) (.int (1 : Int32)))) :: (sl, (IA Z .int xs)) :: (rv, (IA Z .int (1 :: List.replicate 15 0))) :: (va, (IA Z .int (a :: b :: List.replicate 14 0))) :: (le, (LA Z ((0 : Int64) :: (0 : Int64) :: List.replicate 14 0))) :: (ss, (IA Z .byte (0 :: 4 :: List.replicate 14 0))) :: (il, (ShAL Z (.int (0 : Int32)) dv (.int (0 : Int32)))) :: F) (Ret (some (.int 1)) ((t, (ShTS Z (.ref sl) (.ref ix) (.ref il) (.ref rv) (.int (1 : Int32)) (.ref va) (.ref le) (.ref ss) (.int (1 : Int32)) (.int (2 : Int32)) .null (.int (0 : Int32)) (.int (2 : Int32)) (.int (1 : Int32)))) :: (sl, (IA Z .int xs)) :: (rv, (IA Z .int (1 :: List.replicate 15 0))) :: (va, (IA Z .int (a :: b :: List.replicate 14 0))) :: (le, (LA Z ((0 : Int64) :: (0 : Int64) :: List.replicate 14 0))) :: (ss, (IA Z .byte (0 :: 4 :: List.replicate 14 0))) :: (il, (ShAL Z (.int (0 : Int32)) dv (.int (0 : Int32)))) :: F)) := by
  refine Sp.of (ls := #[.val (.ref t)]) pn_mG28 (fun m => by first | (simp [entryFrame, mkF, argsToLocals, Value.category]; done) | rfl) ?_
  show W _ _ _ _ _ _ 0 0 ((t, (ShTS Z (.ref sl) (.ref ix) (.ref il) (.ref rv) (.int (1 : Int32)) (.ref va) (.ref le) (.ref ss) (.int (1 : Int32)) (.int (2 : Int32)) .null (.int (0 : Int32)) (.int (2 : Int32)) (.int (1 : Int32)))) :: (sl, (IA Z .int xs)) :: (rv, (IA Z .int (1 :: List.replicate 15 0))) :: (va, (IA Z .int (a :: b :: List.replicate 14 0))) :: (le, (LA Z ((0 : Int64) :: (0 : Int64) :: List.replicate 14 0))) :: (ss, (IA Z .byte (0 :: 4 :: List.replicate 14 0))) :: (il, (ShAL Z (.int (0 : Int32)) dv (.int (0 : Int32)))) :: F) 0 #[.val (.ref t)] []
  refine W.aloadN d21_0 (pc' := 1) rfl rfl rfl ?_
  refine W.getF 0 13 d21_1 (host := "") (Or.inl (wd hw 153 rfl)) Via.refl rfl rfl (pc' := 4) rfl ?_
  exact W.retI d21_4 rfl (by decide) (by decide) ⟨rfl, rfl⟩
set_option maxRecDepth 65536 in
set_option maxHeartbeats 40000000 in
theorem remT29 (l : Launch) (Z : State) (n0 : Nat) (a0 : Array Value) (hw : ∀ d ∈ tables_1, d.before a0 Z = true) (F : Asn) (dv : Value) (hdr : dv.isRef = true) (t sl ix il rv va le ss : Addr) (a b : Int32) (xs : List Int32) (K : List Int32 → Prop) (p : Nat) (i3 i5 : Int32) (s6 : Slot) (hlx : xs.length = 32) (hp : p < 32) (hK : K (xs.set p 0)) : W l Z n0 ("com/example/mendb/mendb/TupleStore", "remove", prog_126_method_25_code, 7, none) ({ frames := 2, cells := 0, slots := 0, locals := 40 } : Room) (fun v σ' => v = none ∧ ∃ xs' : List Int32, xs'.length = 32 ∧ K xs' ∧ σ' = ((t, (ShTS Z (.ref sl) (.ref ix) (.ref il) (.ref rv) (.int (1 : Int32)) (.ref va) (.ref le) (.ref ss) (.int (1 : Int32)) (.int (2 : Int32)) .null (.int (1 : Int32)) (.int (2 : Int32)) (.int (2 : Int32)))) :: (sl, (IA Z .int xs')) :: (rv, (IA Z .int (1 :: List.replicate 15 0))) :: (va, (IA Z .int (a :: b :: List.replicate 14 0))) :: (le, (LA Z ((0 : Int64) :: (0 : Int64) :: List.replicate 14 0))) :: (ss, (IA Z .byte (0 :: 3 :: List.replicate 14 0))) :: (il, (ShAL Z (.int (0 : Int32)) dv (.int (0 : Int32)))) :: F)) 0 0 ((t, (ShTS Z (.ref sl) (.ref ix) (.ref il) (.ref rv) (.int (1 : Int32)) (.ref va) (.ref le) (.ref ss) (.int (2 : Int32)) (.int (2 : Int32)) .null (.int (0 : Int32)) (.int (2 : Int32)) (.int (2 : Int32)))) :: (sl, (IA Z .int xs)) :: (rv, (IA Z .int (List.replicate 16 0))) :: (va, (IA Z .int (a :: b :: List.replicate 14 0))) :: (le, (LA Z ((0 : Int64) :: (0 : Int64) :: List.replicate 14 0))) :: (ss, (IA Z .byte (List.replicate 16 0))) :: (il, (ShAL Z (.int (0 : Int32)) dv (.int (0 : Int32)))) :: F) 139 #[.val (.ref t), .val (.int (1 : Int32)), .val (.int (31 : Int32)), .val (.int i3), .val (.int (Int32.ofNat p)), .val (.int i5), s6] [] := by
  refine W.aloadN d16_139 (pc' := 140) rfl rfl rfl ?_
  refine W.getF 0 0 d16_140 (host := "") (Or.inl (wd hw 10 rfl)) Via.refl rfl rfl (pc' := 143) rfl ?_
  refine W.iload d16_143 (pc' := 145) rfl rfl ?_
  refine W.iconst (0 : Int32) d16_145 (pc' := 146) rfl rfl ?_
  refine W.iastore ((t, (ShTS Z (.ref sl) (.ref ix) (.ref il) (.ref rv) (.int (1 : Int32)) (.ref va) (.ref le) (.ref ss) (.int (2 : Int32)) (.int (2 : Int32)) .null (.int (0 : Int32)) (.int (2 : Int32)) (.int (2 : Int32)))) :: (sl, (IA Z .int (xs.set p 0))) :: (rv, (IA Z .int (List.replicate 16 0))) :: (va, (IA Z .int (a :: b :: List.replicate 14 0))) :: (le, (LA Z ((0 : Int64) :: (0 : Int64) :: List.replicate 14 0))) :: (ss, (IA Z .byte (List.replicate 16 0))) :: (il, (ShAL Z (.int (0 : Int32)) dv (.int (0 : Int32)))) :: F) 1 p d16_146 rfl (own_nn hp) (own_tn hp) (by rw [hlx]; exact hp) rfl (pc' := 147) rfl ?_
  refine W.aloadN d16_147 (pc' := 148) rfl rfl rfl ?_
  refine W.getF 0 7 d16_148 (host := "") (Or.inl (wd hw 66 rfl)) Via.refl rfl rfl (pc' := 151) rfl ?_
  refine W.iloadN d16_151 (pc' := 152) rfl rfl ?_
  refine W.iconst (3 : Int32) d16_152 (pc' := 153) rfl rfl ?_
  refine W.bastore ((t, (ShTS Z (.ref sl) (.ref ix) (.ref il) (.ref rv) (.int (1 : Int32)) (.ref va) (.ref le) (.ref ss) (.int (2 : Int32)) (.int (2 : Int32)) .null (.int (0 : Int32)) (.int (2 : Int32)) (.int (2 : Int32)))) :: (sl, (IA Z .int (xs.set p 0))) :: (rv, (IA Z .int (List.replicate 16 0))) :: (va, (IA Z .int (a :: b :: List.replicate 14 0))) :: (le, (LA Z ((0 : Int64) :: (0 : Int64) :: List.replicate 14 0))) :: (ss, (IA Z .byte (0 :: 3 :: List.replicate 14 0))) :: (il, (ShAL Z (.int (0 : Int32)) dv (.int (0 : Int32)))) :: F) 5 1 d16_153 rfl (by decide) rfl (Nat.le_of_ble_eq_true rfl) rfl (pc' := 154) rfl ?_
  refine W.aloadN d16_154 (pc' := 155) rfl rfl rfl ?_
  refine W.dup d16_155 (pc' := 156) rfl rfl ?_
  refine W.getF 0 8 d16_156 (host := "") (Or.inl (wd hw 78 rfl)) Via.refl rfl rfl (pc' := 159) rfl ?_
  refine W.iconst (1 : Int32) d16_159 (pc' := 160) rfl rfl ?_
  refine W.isub d16_160 (pc' := 161) rfl ?_
  refine W.topI (1 : Int32) (by decide) ?_
  refine W.putF ((t, (ShTS Z (.ref sl) (.ref ix) (.ref il) (.ref rv) (.int (1 : Int32)) (.ref va) (.ref le) (.ref ss) (.int (1 : Int32)) (.int (2 : Int32)) .null (.int (0 : Int32)) (.int (2 : Int32)) (.int (2 : Int32)))) :: (sl, (IA Z .int (xs.set p 0))) :: (rv, (IA Z .int (List.replicate 16 0))) :: (va, (IA Z .int (a :: b :: List.replicate 14 0))) :: (le, (LA Z ((0 : Int64) :: (0 : Int64) :: List.replicate 14 0))) :: (ss, (IA Z .byte (0 :: 3 :: List.replicate 14 0))) :: (il, (ShAL Z (.int (0 : Int32)) dv (.int (0 : Int32)))) :: F) 0 8 d16_161 (host := "") (Or.inl (wd hw 78 rfl)) Via.refl (Or.inl (wd hw 79 rfl)) (wd hw 1 rfl) (ty := .int) (by decide) rfl rfl rfl rfl rfl (pc' := 164) rfl ?_
  refine W.aloadN d16_164 (pc' := 165) rfl rfl rfl ?_
  refine W.getF 0 11 d16_165 (host := "") (Or.inl (wd hw 144 rfl)) Via.refl rfl rfl (pc' := 168) rfl ?_
  refine W.aloadN d16_168 (pc' := 169) rfl rfl rfl ?_
  refine W.getF 0 3 d16_169 (host := "") (Or.inl (wd hw 56 rfl)) Via.refl rfl rfl (pc' := 172) rfl ?_
  refine W.len 2 (16 : Int32) d16_172 rfl rfl (pc' := 173) rfl ?_
  refine W.icmpY d16_173 (by decide) (by decide) (pc' := 193) rfl ?_
  refine W.aloadN d16_193 (pc' := 194) rfl rfl rfl ?_
  refine W.getF 0 3 d16_194 (host := "") (Or.inl (wd hw 56 rfl)) Via.refl rfl rfl (pc' := 197) rfl ?_
  refine W.aloadN d16_197 (pc' := 198) rfl rfl rfl ?_
  refine W.getF 0 11 d16_198 (host := "") (Or.inl (wd hw 144 rfl)) Via.refl rfl rfl (pc' := 201) rfl ?_
  refine W.iloadN d16_201 (pc' := 202) rfl rfl ?_
  refine W.iastore ((t, (ShTS Z (.ref sl) (.ref ix) (.ref il) (.ref rv) (.int (1 : Int32)) (.ref va) (.ref le) (.ref ss) (.int (1 : Int32)) (.int (2 : Int32)) .null (.int (0 : Int32)) (.int (2 : Int32)) (.int (2 : Int32)))) :: (sl, (IA Z .int (xs.set p 0))) :: (rv, (IA Z .int (1 :: List.replicate 15 0))) :: (va, (IA Z .int (a :: b :: List.replicate 14 0))) :: (le, (LA Z ((0 : Int64) :: (0 : Int64) :: List.replicate 14 0))) :: (ss, (IA Z .byte (0 :: 3 :: List.replicate 14 0))) :: (il, (ShAL Z (.int (0 : Int32)) dv (.int (0 : Int32)))) :: F) 2 0 d16_202 rfl (by decide) rfl (Nat.le_of_ble_eq_true rfl) rfl (pc' := 203) rfl ?_
  refine W.aloadN d16_203 (pc' := 204) rfl rfl rfl ?_
  refine W.dup d16_204 (pc' := 205) rfl rfl ?_
  refine W.getF 0 11 d16_205 (host := "") (Or.inl (wd hw 144 rfl)) Via.refl rfl rfl (pc' := 208) rfl ?_
  refine W.iconst (1 : Int32) d16_208 (pc' := 209) rfl rfl ?_
  refine W.iadd d16_209 (pc' := 210) rfl ?_
  refine W.topI (1 : Int32) (by decide) ?_
  refine W.putF ((t, (ShTS Z (.ref sl) (.ref ix) (.ref il) (.ref rv) (.int (1 : Int32)) (.ref va) (.ref le) (.ref ss) (.int (1 : Int32)) (.int (2 : Int32)) .null (.int (1 : Int32)) (.int (2 : Int32)) (.int (2 : Int32)))) :: (sl, (IA Z .int (xs.set p 0))) :: (rv, (IA Z .int (1 :: List.replicate 15 0))) :: (va, (IA Z .int (a :: b :: List.replicate 14 0))) :: (le, (LA Z ((0 : Int64) :: (0 : Int64) :: List.replicate 14 0))) :: (ss, (IA Z .byte (0 :: 3 :: List.replicate 14 0))) :: (il, (ShAL Z (.int (0 : Int32)) dv (.int (0 : Int32)))) :: F) 0 11 d16_210 (host := "") (Or.inl (wd hw 144 rfl)) Via.refl (Or.inl (wd hw 145 rfl)) (wd hw 1 rfl) (ty := .int) (by decide) rfl rfl rfl rfl rfl (pc' := 213) rfl ?_
  exact W.retV d16_213 rfl (by decide) (by decide) ⟨rfl, _, by rw [List.length_set]; exact hlx, hK, rfl⟩
theorem pn_mRem30 : plainFor (⟨"com/example/mendb/mendb/TupleStore", "remove", "(I)V"⟩ : MethodName) = true := by first | (refine plainFor_of_name ?_; simp [plainName, overriddenIn]; done) | (refine plainFor_of_name ?_; decide +kernel) | decide +kernel
set_option maxRecDepth 65536 in
set_option maxHeartbeats 40000000 in
theorem mRem30 (l : Launch) (Z : State) (n0 : Nat) (a0 : Array Value) (hw : ∀ d ∈ tables_1, d.before a0 Z = true) (F : Asn) (dv : Value) (hdr : dv.isRef = true) (t sl ix il rv va le ss : Addr) (a b : Int32) : Sp l Z n0 (⟨"com/example/mendb/mendb/TupleStore", "remove", "(I)V"⟩ : MethodName) prog_126_method_25_code 7 none ({ frames := 2, cells := 0, slots := 0, locals := 40 } : Room) [(.ref t), (.int (1 : Int32))] ((t, (ShTS Z (.ref sl) (.ref ix) (.ref il) (.ref rv) (.int (1 : Int32)) (.ref va) (.ref le) (.ref ss) (.int (2 : Int32)) (.int (2 : Int32)) .null (.int (0 : Int32)) (.int (2 : Int32)) (.int (2 : Int32)))) :: (sl, (IA Z .int (own_two (own_s a) (own_pb a b)))) :: (rv, (IA Z .int (List.replicate 16 0))) :: (va, (IA Z .int (a :: b :: List.replicate 14 0))) :: (le, (LA Z ((0 : Int64) :: (0 : Int64) :: List.replicate 14 0))) :: (ss, (IA Z .byte (List.replicate 16 0))) :: (il, (ShAL Z (.int (0 : Int32)) dv (.int (0 : Int32)))) :: F) (fun v σ' => v = none ∧ ∃ xs' : List Int32, xs'.length = 32 ∧ (fun _ => True) xs' ∧ σ' = ((t, (ShTS Z (.ref sl) (.ref ix) (.ref il) (.ref rv) (.int (1 : Int32)) (.ref va) (.ref le) (.ref ss) (.int (1 : Int32)) (.int (2 : Int32)) .null (.int (1 : Int32)) (.int (2 : Int32)) (.int (2 : Int32)))) :: (sl, (IA Z .int xs')) :: (rv, (IA Z .int (1 :: List.replicate 15 0))) :: (va, (IA Z .int (a :: b :: List.replicate 14 0))) :: (le, (LA Z ((0 : Int64) :: (0 : Int64) :: List.replicate 14 0))) :: (ss, (IA Z .byte (0 :: 3 :: List.replicate 14 0))) :: (il, (ShAL Z (.int (0 : Int32)) dv (.int (0 : Int32)))) :: F)) := by
  refine Sp.of (ls := #[.val (.ref t), .val (.int (1 : Int32)), .unset, .unset, .unset, .unset, .unset]) pn_mRem30 (fun m => by first | (simp [entryFrame, mkF, argsToLocals, Value.category]; done) | rfl) ?_
  show W _ _ _ _ _ _ 0 0 ((t, (ShTS Z (.ref sl) (.ref ix) (.ref il) (.ref rv) (.int (1 : Int32)) (.ref va) (.ref le) (.ref ss) (.int (2 : Int32)) (.int (2 : Int32)) .null (.int (0 : Int32)) (.int (2 : Int32)) (.int (2 : Int32)))) :: (sl, (IA Z .int (own_two (own_s a) (own_pb a b)))) :: (rv, (IA Z .int (List.replicate 16 0))) :: (va, (IA Z .int (a :: b :: List.replicate 14 0))) :: (le, (LA Z ((0 : Int64) :: (0 : Int64) :: List.replicate 14 0))) :: (ss, (IA Z .byte (List.replicate 16 0))) :: (il, (ShAL Z (.int (0 : Int32)) dv (.int (0 : Int32)))) :: F) 0 #[.val (.ref t), .val (.int (1 : Int32)), .unset, .unset, .unset, .unset, .unset] []
  have la := own_s_lt a
  have lb := own_s_lt b
  have lp := own_pb_lt a b
  have np := own_pb_ne a b
  refine W.aloadN d16_0 (pc' := 1) rfl rfl rfl ?_
  refine W.getF 0 0 d16_1 (host := "") (Or.inl (wd hw 10 rfl)) Via.refl rfl rfl (pc' := 4) rfl ?_
  refine W.len 1 (32 : Int32) d16_4 rfl (by rw [own_two_len]; rfl) (pc' := 5) rfl ?_
  refine W.iconst (1 : Int32) d16_5 (pc' := 6) rfl rfl ?_
  refine W.isub d16_6 (pc' := 7) rfl ?_
  refine W.topI (31 : Int32) (by decide) ?_
  refine W.istoreN #[.val (.ref t), .val (.int (1 : Int32)), .val (.int (31 : Int32)), .unset, .unset, .unset, .unset] d16_7 (pc' := 8) rfl rfl ?_
  refine W.aloadN d16_8 (pc' := 9) rfl rfl rfl ?_
  refine W.aloadN d16_9 (pc' := 10) rfl rfl rfl ?_
  refine W.getF 0 5 d16_10 (host := "") (Or.inl (wd hw 60 rfl)) Via.refl rfl rfl (pc' := 13) rfl ?_
  refine W.iloadN d16_13 (pc' := 14) rfl rfl ?_
  refine W.aloadN d16_14 (pc' := 15) rfl rfl rfl ?_
  refine W.getF 0 4 d16_15 (host := "") (Or.inl (wd hw 58 rfl)) Via.refl rfl rfl (pc' := 18) rfl ?_
  refine W.imul d16_18 (pc' := 19) rfl ?_
  refine W.topI (1 : Int32) (by decide) ?_
  refine W.pulls ((t, (ShTS Z (.ref sl) (.ref ix) (.ref il) (.ref rv) (.int (1 : Int32)) (.ref va) (.ref le) (.ref ss) (.int (2 : Int32)) (.int (2 : Int32)) .null (.int (0 : Int32)) (.int (2 : Int32)) (.int (2 : Int32)))) :: (va, (IA Z .int (a :: b :: List.replicate 14 0))) :: (sl, (IA Z .int (own_two (own_s a) (own_pb a b)))) :: (rv, (IA Z .int (List.replicate 16 0))) :: (le, (LA Z ((0 : Int64) :: (0 : Int64) :: List.replicate 14 0))) :: (ss, (IA Z .byte (List.replicate 16 0))) :: (il, (ShAL Z (.int (0 : Int32)) dv (.int (0 : Int32)))) :: F) [3, 1] rfl ?_
  refine W.callP 0 rfl (mHash1 l Z n0 a0 hw ((sl, (IA Z .int (own_two (own_s a) (own_pb a b)))) :: (rv, (IA Z .int (List.replicate 16 0))) :: (le, (LA Z ((0 : Int64) :: (0 : Int64) :: List.replicate 14 0))) :: (ss, (IA Z .byte (List.replicate 16 0))) :: (il, (ShAL Z (.int (0 : Int32)) dv (.int (0 : Int32)))) :: F) t va (.ref sl) (.ref ix) (.ref il) (.ref rv) (.ref va) (.ref le) (.ref ss) (.int (2 : Int32)) (.int (2 : Int32)) .null (.int (0 : Int32)) (.int (2 : Int32)) (.int (2 : Int32)) (a :: b :: List.replicate 14 0) b rfl) d16_19 (wd hw 80 rfl) (wd hw 81 rfl) (wd hw 82 rfl) (wd hw 1 rfl) (wd hw 2 rfl) (wd hw 83 rfl) (by decide) pd6 rfl rfl (Nat.le_of_ble_eq_true rfl) (Nat.le_of_ble_eq_true rfl) (Nat.le_of_ble_eq_true rfl) (Nat.le_of_ble_eq_true rfl) rfl (pc' := 22) rfl ?_
  intro v9 s9 q9
  rw [q9.1, q9.2]
  clear q9 v9 s9
  show W _ _ _ _ _ _ 0 0 ((t, (ShTS Z (.ref sl) (.ref ix) (.ref il) (.ref rv) (.int (1 : Int32)) (.ref va) (.ref le) (.ref ss) (.int (2 : Int32)) (.int (2 : Int32)) .null (.int (0 : Int32)) (.int (2 : Int32)) (.int (2 : Int32)))) :: (va, (IA Z .int (a :: b :: List.replicate 14 0))) :: (sl, (IA Z .int (own_two (own_s a) (own_pb a b)))) :: (rv, (IA Z .int (List.replicate 16 0))) :: (le, (LA Z ((0 : Int64) :: (0 : Int64) :: List.replicate 14 0))) :: (ss, (IA Z .byte (List.replicate 16 0))) :: (il, (ShAL Z (.int (0 : Int32)) dv (.int (0 : Int32)))) :: F) 22 #[.val (.ref t), .val (.int (1 : Int32)), .val (.int (31 : Int32)), .unset, .unset, .unset, .unset] [(.int (own_h b))]
  refine W.iloadN d16_22 (pc' := 23) rfl rfl ?_
  refine W.iand d16_23 (pc' := 24) rfl ?_
  refine W.topI (Int32.ofNat (own_s b)) (own_slot b) ?_
  refine W.pulls ((t, (ShTS Z (.ref sl) (.ref ix) (.ref il) (.ref rv) (.int (1 : Int32)) (.ref va) (.ref le) (.ref ss) (.int (2 : Int32)) (.int (2 : Int32)) .null (.int (0 : Int32)) (.int (2 : Int32)) (.int (2 : Int32)))) :: (sl, (IA Z .int (own_two (own_s a) (own_pb a b)))) :: (rv, (IA Z .int (List.replicate 16 0))) :: (va, (IA Z .int (a :: b :: List.replicate 14 0))) :: (le, (LA Z ((0 : Int64) :: (0 : Int64) :: List.replicate 14 0))) :: (ss, (IA Z .byte (List.replicate 16 0))) :: (il, (ShAL Z (.int (0 : Int32)) dv (.int (0 : Int32)))) :: F) [3, 3, 2] rfl ?_
  refine W.istoreN #[.val (.ref t), .val (.int (1 : Int32)), .val (.int (31 : Int32)), .val (.int (Int32.ofNat (own_s b))), .unset, .unset, .unset] d16_24 (pc' := 25) rfl rfl ?_
  refine W.aloadN d16_25 (pc' := 26) rfl rfl rfl ?_
  refine W.getF 0 0 d16_26 (host := "") (Or.inl (wd hw 10 rfl)) Via.refl rfl rfl (pc' := 29) rfl ?_
  refine W.iloadN d16_29 (pc' := 30) rfl rfl ?_
  have j46 : W l Z n0 ("com/example/mendb/mendb/TupleStore", "remove", prog_126_method_25_code, 7, none) ({ frames := 2, cells := 0, slots := 0, locals := 40 } : Room) (fun v σ' => v = none ∧ ∃ xs' : List Int32, xs'.length = 32 ∧ (fun _ => True) xs' ∧ σ' = ((t, (ShTS Z (.ref sl) (.ref ix) (.ref il) (.ref rv) (.int (1 : Int32)) (.ref va) (.ref le) (.ref ss) (.int (1 : Int32)) (.int (2 : Int32)) .null (.int (1 : Int32)) (.int (2 : Int32)) (.int (2 : Int32)))) :: (sl, (IA Z .int xs')) :: (rv, (IA Z .int (1 :: List.replicate 15 0))) :: (va, (IA Z .int (a :: b :: List.replicate 14 0))) :: (le, (LA Z ((0 : Int64) :: (0 : Int64) :: List.replicate 14 0))) :: (ss, (IA Z .byte (0 :: 3 :: List.replicate 14 0))) :: (il, (ShAL Z (.int (0 : Int32)) dv (.int (0 : Int32)))) :: F)) 0 0 ((t, (ShTS Z (.ref sl) (.ref ix) (.ref il) (.ref rv) (.int (1 : Int32)) (.ref va) (.ref le) (.ref ss) (.int (2 : Int32)) (.int (2 : Int32)) .null (.int (0 : Int32)) (.int (2 : Int32)) (.int (2 : Int32)))) :: (sl, (IA Z .int (own_two (own_s a) (own_pb a b)))) :: (rv, (IA Z .int (List.replicate 16 0))) :: (va, (IA Z .int (a :: b :: List.replicate 14 0))) :: (le, (LA Z ((0 : Int64) :: (0 : Int64) :: List.replicate 14 0))) :: (ss, (IA Z .byte (List.replicate 16 0))) :: (il, (ShAL Z (.int (0 : Int32)) dv (.int (0 : Int32)))) :: F) 46 #[.val (.ref t), .val (.int (1 : Int32)), .val (.int (31 : Int32)), .val (.int (Int32.ofNat (own_pb a b))), .unset, .unset, .unset] [] := by
    refine W.iloadN d16_46 (pc' := 47) rfl rfl ?_
    refine W.istore #[.val (.ref t), .val (.int (1 : Int32)), .val (.int (31 : Int32)), .val (.int (Int32.ofNat (own_pb a b))), .val (.int (Int32.ofNat (own_pb a b))), .unset, .unset] d16_47 (pc' := 49) rfl rfl ?_
    refine W.iload d16_49 (pc' := 51) rfl rfl ?_
    refine W.iconst (1 : Int32) d16_51 (pc' := 52) rfl rfl ?_
    refine W.iadd d16_52 (pc' := 53) rfl ?_
    refine W.iloadN d16_53 (pc' := 54) rfl rfl ?_
    refine W.iand d16_54 (pc' := 55) rfl ?_
    refine W.topI (Int32.ofNat ((own_pb a b + 1) % 32)) (own_inc (p := own_pb a b) (by omega)) ?_
    refine W.istore #[.val (.ref t), .val (.int (1 : Int32)), .val (.int (31 : Int32)), .val (.int (Int32.ofNat (own_pb a b))), .val (.int (Int32.ofNat (own_pb a b))), .val (.int (Int32.ofNat ((own_pb a b + 1) % 32))), .unset] d16_55 (pc' := 57) rfl rfl ?_
    refine W.aloadN d16_57 (pc' := 58) rfl rfl rfl ?_
    refine W.getF 0 0 d16_58 (host := "") (Or.inl (wd hw 10 rfl)) Via.refl rfl rfl (pc' := 61) rfl ?_
    refine W.iload d16_61 (pc' := 63) rfl rfl ?_
    by_cases hn : own_s a = ((own_pb a b + 1) % 32)
    · refine W.iaload 1 (((own_pb a b + 1) % 32)) (x := 1) d16_63 rfl (own_nn (by omega)) (own_tn (by omega)) (by rw [own_two_at (by omega), if_neg (by omega), if_pos hn]) (pc' := 64) rfl ?_
      refine W.ifN d16_64 (by decide) (pc' := 67) rfl ?_
      refine W.aloadN d16_67 (pc' := 68) rfl rfl rfl ?_
      refine W.aloadN d16_68 (pc' := 69) rfl rfl rfl ?_
      refine W.getF 0 5 d16_69 (host := "") (Or.inl (wd hw 60 rfl)) Via.refl rfl rfl (pc' := 72) rfl ?_
      refine W.aloadN d16_72 (pc' := 73) rfl rfl rfl ?_
      refine W.getF 0 0 d16_73 (host := "") (Or.inl (wd hw 10 rfl)) Via.refl rfl rfl (pc' := 76) rfl ?_
      refine W.iload d16_76 (pc' := 78) rfl rfl ?_
      refine W.iaload 1 (((own_pb a b + 1) % 32)) (x := 1) d16_78 rfl (own_nn (by omega)) (own_tn (by omega)) (by rw [own_two_at (by omega), if_neg (by omega), if_pos hn]) (pc' := 79) rfl ?_
      refine W.iconst (1 : Int32) d16_79 (pc' := 80) rfl rfl ?_
      refine W.isub d16_80 (pc' := 81) rfl ?_
      refine W.topI (0 : Int32) (by decide) ?_
      refine W.aloadN d16_81 (pc' := 82) rfl rfl rfl ?_
      refine W.getF 0 4 d16_82 (host := "") (Or.inl (wd hw 58 rfl)) Via.refl rfl rfl (pc' := 85) rfl ?_
      refine W.imul d16_85 (pc' := 86) rfl ?_
      refine W.topI (0 : Int32) (by decide) ?_
      refine W.pulls ((t, (ShTS Z (.ref sl) (.ref ix) (.ref il) (.ref rv) (.int (1 : Int32)) (.ref va) (.ref le) (.ref ss) (.int (2 : Int32)) (.int (2 : Int32)) .null (.int (0 : Int32)) (.int (2 : Int32)) (.int (2 : Int32)))) :: (va, (IA Z .int (a :: b :: List.replicate 14 0))) :: (sl, (IA Z .int (own_two (own_s a) (own_pb a b)))) :: (rv, (IA Z .int (List.replicate 16 0))) :: (le, (LA Z ((0 : Int64) :: (0 : Int64) :: List.replicate 14 0))) :: (ss, (IA Z .byte (List.replicate 16 0))) :: (il, (ShAL Z (.int (0 : Int32)) dv (.int (0 : Int32)))) :: F) [3, 1] rfl ?_
      refine W.callP 0 rfl (mHash0 l Z n0 a0 hw ((sl, (IA Z .int (own_two (own_s a) (own_pb a b)))) :: (rv, (IA Z .int (List.replicate 16 0))) :: (le, (LA Z ((0 : Int64) :: (0 : Int64) :: List.replicate 14 0))) :: (ss, (IA Z .byte (List.replicate 16 0))) :: (il, (ShAL Z (.int (0 : Int32)) dv (.int (0 : Int32)))) :: F) t va (.ref sl) (.ref ix) (.ref il) (.ref rv) (.ref va) (.ref le) (.ref ss) (.int (2 : Int32)) (.int (2 : Int32)) .null (.int (0 : Int32)) (.int (2 : Int32)) (.int (2 : Int32)) (a :: b :: List.replicate 14 0) a rfl) d16_86 (wd hw 80 rfl) (wd hw 81 rfl) (wd hw 82 rfl) (wd hw 1 rfl) (wd hw 2 rfl) (wd hw 83 rfl) (by decide) pd6 rfl rfl (Nat.le_of_ble_eq_true rfl) (Nat.le_of_ble_eq_true rfl) (Nat.le_of_ble_eq_true rfl) (Nat.le_of_ble_eq_true rfl) rfl (pc' := 89) rfl ?_
      intro v9 s9 q9
      rw [q9.1, q9.2]
      clear q9 v9 s9
      show W _ _ _ _ _ _ 0 0 ((t, (ShTS Z (.ref sl) (.ref ix) (.ref il) (.ref rv) (.int (1 : Int32)) (.ref va) (.ref le) (.ref ss) (.int (2 : Int32)) (.int (2 : Int32)) .null (.int (0 : Int32)) (.int (2 : Int32)) (.int (2 : Int32)))) :: (va, (IA Z .int (a :: b :: List.replicate 14 0))) :: (sl, (IA Z .int (own_two (own_s a) (own_pb a b)))) :: (rv, (IA Z .int (List.replicate 16 0))) :: (le, (LA Z ((0 : Int64) :: (0 : Int64) :: List.replicate 14 0))) :: (ss, (IA Z .byte (List.replicate 16 0))) :: (il, (ShAL Z (.int (0 : Int32)) dv (.int (0 : Int32)))) :: F) 89 #[.val (.ref t), .val (.int (1 : Int32)), .val (.int (31 : Int32)), .val (.int (Int32.ofNat (own_pb a b))), .val (.int (Int32.ofNat (own_pb a b))), .val (.int (Int32.ofNat ((own_pb a b + 1) % 32))), .unset] [(.int (own_h a))]
      refine W.iloadN d16_89 (pc' := 90) rfl rfl ?_
      refine W.iand d16_90 (pc' := 91) rfl ?_
      refine W.topI (Int32.ofNat (own_s a)) (own_slot a) ?_
      refine W.pulls ((t, (ShTS Z (.ref sl) (.ref ix) (.ref il) (.ref rv) (.int (1 : Int32)) (.ref va) (.ref le) (.ref ss) (.int (2 : Int32)) (.int (2 : Int32)) .null (.int (0 : Int32)) (.int (2 : Int32)) (.int (2 : Int32)))) :: (sl, (IA Z .int (own_two (own_s a) (own_pb a b)))) :: (rv, (IA Z .int (List.replicate 16 0))) :: (va, (IA Z .int (a :: b :: List.replicate 14 0))) :: (le, (LA Z ((0 : Int64) :: (0 : Int64) :: List.replicate 14 0))) :: (ss, (IA Z .byte (List.replicate 16 0))) :: (il, (ShAL Z (.int (0 : Int32)) dv (.int (0 : Int32)))) :: F) [3, 3, 2] rfl ?_
      refine W.topI (Int32.ofNat ((own_pb a b + 1) % 32)) (congrArg Int32.ofNat hn) ?_
      refine W.istore #[.val (.ref t), .val (.int (1 : Int32)), .val (.int (31 : Int32)), .val (.int (Int32.ofNat (own_pb a b))), .val (.int (Int32.ofNat (own_pb a b))), .val (.int (Int32.ofNat ((own_pb a b + 1) % 32))), .val (.int (Int32.ofNat ((own_pb a b + 1) % 32)))] d16_91 (pc' := 93) rfl rfl ?_
      refine W.iload d16_93 (pc' := 95) rfl rfl ?_
      refine W.iload d16_95 (pc' := 97) rfl rfl ?_
      refine W.isub d16_97 (pc' := 98) rfl ?_
      refine W.iloadN d16_98 (pc' := 99) rfl rfl ?_
      refine W.iand d16_99 (pc' := 100) rfl ?_
      refine W.topI (0 : Int32) (own_d0 (p := ((own_pb a b + 1) % 32)) (by omega)) ?_
      refine W.iload d16_100 (pc' := 102) rfl rfl ?_
      refine W.iload d16_102 (pc' := 104) rfl rfl ?_
      refine W.isub d16_104 (pc' := 105) rfl ?_
      refine W.iloadN d16_105 (pc' := 106) rfl rfl ?_
      refine W.iand d16_106 (pc' := 107) rfl ?_
      refine W.topI (1 : Int32) (own_d1 lp) ?_
      refine W.icmpY d16_107 (by decide) (by decide) (pc' := 128) rfl ?_
      refine W.iload d16_128 (pc' := 130) rfl rfl ?_
      refine W.iconst (1 : Int32) d16_130 (pc' := 131) rfl rfl ?_
      refine W.iadd d16_131 (pc' := 132) rfl ?_
      refine W.iloadN d16_132 (pc' := 133) rfl rfl ?_
      refine W.iand d16_133 (pc' := 134) rfl ?_
      refine W.topI (Int32.ofNat ((((own_pb a b + 1) % 32) + 1) % 32)) (own_inc (p := ((own_pb a b + 1) % 32)) (by omega)) ?_
      refine W.istore #[.val (.ref t), .val (.int (1 : Int32)), .val (.int (31 : Int32)), .val (.int (Int32.ofNat (own_pb a b))), .val (.int (Int32.ofNat (own_pb a b))), .val (.int (Int32.ofNat ((((own_pb a b + 1) % 32) + 1) % 32))), .val (.int (Int32.ofNat ((own_pb a b + 1) % 32)))] d16_134 (pc' := 136) rfl rfl ?_
      refine W.goto d16_136 (pc' := 57) (by decide) rfl ?_
      refine W.aloadN d16_57 (pc' := 58) rfl rfl rfl ?_
      refine W.getF 0 0 d16_58 (host := "") (Or.inl (wd hw 10 rfl)) Via.refl rfl rfl (pc' := 61) rfl ?_
      refine W.iload d16_61 (pc' := 63) rfl rfl ?_
      refine W.iaload 1 ((((own_pb a b + 1) % 32) + 1) % 32) (x := 0) d16_63 rfl (own_nn (by omega)) (own_tn (by omega)) (by rw [own_two_at (by omega), if_neg (by omega), if_neg (by omega)]) (pc' := 64) rfl ?_
      refine W.ifY d16_64 (by decide) (by decide) (pc' := 139) rfl ?_
      exact remT29 l Z n0 a0 hw F dv hdr t sl ix il rv va le ss a b (own_two (own_s a) (own_pb a b)) (fun _ => True) (own_pb a b) _ _ _ (own_two_len _ _) (by omega) trivial
    · refine W.iaload 1 (((own_pb a b + 1) % 32)) (x := 0) d16_63 rfl (own_nn (by omega)) (own_tn (by omega)) (by rw [own_two_at (by omega), if_neg (by omega), if_neg hn]) (pc' := 64) rfl ?_
      refine W.ifY d16_64 (by decide) (by decide) (pc' := 139) rfl ?_
      exact remT29 l Z n0 a0 hw F dv hdr t sl ix il rv va le ss a b (own_two (own_s a) (own_pb a b)) (fun _ => True) (own_pb a b) _ _ _ (own_two_len _ _) (by omega) trivial
  by_cases hs : own_s b = own_s a
  · have hsb : own_pb a b = (own_s b + 1) % 32 := by unfold own_pb; rw [if_pos hs, hs]
    refine W.iaload 1 (own_s b) (x := 1) d16_30 rfl (own_nn (by omega)) (own_tn (by omega)) (by rw [own_two_at lb, if_neg (by omega), if_pos hs.symm]) (pc' := 31) rfl ?_
    refine W.iloadN d16_31 (pc' := 32) rfl rfl ?_
    refine W.iconst (1 : Int32) d16_32 (pc' := 33) rfl rfl ?_
    refine W.iadd d16_33 (pc' := 34) rfl ?_
    refine W.topI (2 : Int32) (by decide) ?_
    refine W.icmpN d16_34 (by decide) (pc' := 37) rfl ?_
    refine W.iloadN d16_37 (pc' := 38) rfl rfl ?_
    refine W.iconst (1 : Int32) d16_38 (pc' := 39) rfl rfl ?_
    refine W.iadd d16_39 (pc' := 40) rfl ?_
    refine W.iloadN d16_40 (pc' := 41) rfl rfl ?_
    refine W.iand d16_41 (pc' := 42) rfl ?_
    refine W.topI (Int32.ofNat ((own_s b + 1) % 32)) (own_inc (p := own_s b) (by omega)) ?_
    refine W.istoreN #[.val (.ref t), .val (.int (1 : Int32)), .val (.int (31 : Int32)), .val (.int (Int32.ofNat ((own_s b + 1) % 32))), .unset, .unset, .unset] d16_42 (pc' := 43) rfl rfl ?_
    refine W.goto d16_43 (pc' := 25) (by decide) rfl ?_
    refine W.aloadN d16_25 (pc' := 26) rfl rfl rfl ?_
    refine W.getF 0 0 d16_26 (host := "") (Or.inl (wd hw 10 rfl)) Via.refl rfl rfl (pc' := 29) rfl ?_
    refine W.iloadN d16_29 (pc' := 30) rfl rfl ?_
    refine W.iaload 1 ((own_s b + 1) % 32) (x := 2) d16_30 rfl (own_nn (by omega)) (own_tn (by omega)) (by rw [own_two_at (by omega), if_pos hsb]) (pc' := 31) rfl ?_
    refine W.iloadN d16_31 (pc' := 32) rfl rfl ?_
    refine W.iconst (1 : Int32) d16_32 (pc' := 33) rfl rfl ?_
    refine W.iadd d16_33 (pc' := 34) rfl ?_
    refine W.topI (2 : Int32) (by decide) ?_
    refine W.icmpY d16_34 (by decide) (by decide) (pc' := 46) rfl ?_
    rw [← hsb]
    exact j46
  · have hsb : own_pb a b = own_s b := by unfold own_pb; rw [if_neg hs]
    rw [hsb] at j46
    refine W.iaload 1 (own_s b) (x := 2) d16_30 rfl (own_nn (by omega)) (own_tn (by omega)) (by rw [own_two_at lb, if_pos hsb]) (pc' := 31) rfl ?_
    refine W.iloadN d16_31 (pc' := 32) rfl rfl ?_
    refine W.iconst (1 : Int32) d16_32 (pc' := 33) rfl rfl ?_
    refine W.iadd d16_33 (pc' := 34) rfl ?_
    refine W.topI (2 : Int32) (by decide) ?_
    refine W.icmpY d16_34 (by decide) (by decide) (pc' := 46) rfl ?_
    rw [hsb]
    exact j46
theorem pn_mBC31 : plainFor (⟨"com/example/mendb/mendb/TupleStore", "beginCommit", "()V"⟩ : MethodName) = true := by first | (refine plainFor_of_name ?_; simp [plainName, overriddenIn]; done) | (refine plainFor_of_name ?_; decide +kernel) | decide +kernel
set_option maxRecDepth 65536 in
set_option maxHeartbeats 40000000 in
theorem mBC31 (l : Launch) (Z : State) (n0 : Nat) (a0 : Array Value) (hw : ∀ d ∈ tables_1, d.before a0 Z = true) (F : Asn) (dv : Value) (hdr : dv.isRef = true) (t sl ix il rv va le ss : Addr) (a b : Int32) (xs : List Int32) : Sp l Z n0 (⟨"com/example/mendb/mendb/TupleStore", "beginCommit", "()V"⟩ : MethodName) prog_126_method_26_code 2 none ({ frames := 0, cells := 0, slots := 0, locals := 0 } : Room) [(.ref t)] ((t, (ShTS Z (.ref sl) (.ref ix) (.ref il) (.ref rv) (.int (1 : Int32)) (.ref va) (.ref le) (.ref ss) (.int (1 : Int32)) (.int (2 : Int32)) .null (.int (1 : Int32)) (.int (2 : Int32)) (.int (2 : Int32)))) :: (sl, (IA Z .int xs)) :: (rv, (IA Z .int (1 :: List.replicate 15 0))) :: (va, (IA Z .int (a :: b :: List.replicate 14 0))) :: (le, (LA Z ((0 : Int64) :: (0 : Int64) :: List.replicate 14 0))) :: (ss, (IA Z .byte (0 :: 3 :: List.replicate 14 0))) :: (il, (ShAL Z (.int (0 : Int32)) dv (.int (0 : Int32)))) :: F) (Ret none ((t, (ShTS Z (.ref sl) (.ref ix) (.ref il) (.ref rv) (.int (1 : Int32)) (.ref va) (.ref le) (.ref ss) (.int (1 : Int32)) (.int (2 : Int32)) .null (.int (0 : Int32)) (.int (2 : Int32)) (.int (1 : Int32)))) :: (sl, (IA Z .int xs)) :: (rv, (IA Z .int (1 :: List.replicate 15 0))) :: (va, (IA Z .int (a :: b :: List.replicate 14 0))) :: (le, (LA Z ((0 : Int64) :: (0 : Int64) :: List.replicate 14 0))) :: (ss, (IA Z .byte (0 :: 4 :: List.replicate 14 0))) :: (il, (ShAL Z (.int (0 : Int32)) dv (.int (0 : Int32)))) :: F)) := by
  refine Sp.of (ls := #[.val (.ref t), .unset]) pn_mBC31 (fun m => by first | (simp [entryFrame, mkF, argsToLocals, Value.category]; done) | rfl) ?_
  show W _ _ _ _ _ _ 0 0 ((t, (ShTS Z (.ref sl) (.ref ix) (.ref il) (.ref rv) (.int (1 : Int32)) (.ref va) (.ref le) (.ref ss) (.int (1 : Int32)) (.int (2 : Int32)) .null (.int (1 : Int32)) (.int (2 : Int32)) (.int (2 : Int32)))) :: (sl, (IA Z .int xs)) :: (rv, (IA Z .int (1 :: List.replicate 15 0))) :: (va, (IA Z .int (a :: b :: List.replicate 14 0))) :: (le, (LA Z ((0 : Int64) :: (0 : Int64) :: List.replicate 14 0))) :: (ss, (IA Z .byte (0 :: 3 :: List.replicate 14 0))) :: (il, (ShAL Z (.int (0 : Int32)) dv (.int (0 : Int32)))) :: F) 0 #[.val (.ref t), .unset] []
  refine W.iconst (0 : Int32) d17_0 (pc' := 1) rfl rfl ?_
  refine W.istoreN #[.val (.ref t), .val (.int (0 : Int32))] d17_1 (pc' := 2) rfl rfl ?_
  refine W.iloadN d17_2 (pc' := 3) rfl rfl ?_
  refine W.aloadN d17_3 (pc' := 4) rfl rfl rfl ?_
  refine W.getF 0 11 d17_4 (host := "") (Or.inl (wd hw 144 rfl)) Via.refl rfl rfl (pc' := 7) rfl ?_
  refine W.icmpN d17_7 (by decide) (pc' := 10) rfl ?_
  refine W.aloadN d17_10 (pc' := 11) rfl rfl rfl ?_
  refine W.getF 0 7 d17_11 (host := "") (Or.inl (wd hw 66 rfl)) Via.refl rfl rfl (pc' := 14) rfl ?_
  refine W.aloadN d17_14 (pc' := 15) rfl rfl rfl ?_
  refine W.getF 0 3 d17_15 (host := "") (Or.inl (wd hw 56 rfl)) Via.refl rfl rfl (pc' := 18) rfl ?_
  refine W.iloadN d17_18 (pc' := 19) rfl rfl ?_
  refine W.iaload 2 0 (x := 1) d17_19 rfl (by decide) rfl rfl (pc' := 20) rfl ?_
  refine W.iconst (4 : Int32) d17_20 (pc' := 21) rfl rfl ?_
  refine W.bastore ((t, (ShTS Z (.ref sl) (.ref ix) (.ref il) (.ref rv) (.int (1 : Int32)) (.ref va) (.ref le) (.ref ss) (.int (1 : Int32)) (.int (2 : Int32)) .null (.int (1 : Int32)) (.int (2 : Int32)) (.int (2 : Int32)))) :: (sl, (IA Z .int xs)) :: (rv, (IA Z .int (1 :: List.replicate 15 0))) :: (va, (IA Z .int (a :: b :: List.replicate 14 0))) :: (le, (LA Z ((0 : Int64) :: (0 : Int64) :: List.replicate 14 0))) :: (ss, (IA Z .byte (0 :: 4 :: List.replicate 14 0))) :: (il, (ShAL Z (.int (0 : Int32)) dv (.int (0 : Int32)))) :: F) 5 1 d17_21 rfl (by decide) rfl (Nat.le_of_ble_eq_true rfl) rfl (pc' := 22) rfl ?_
  refine W.iinc #[.val (.ref t), .val (.int (1 : Int32))] (1 : Int32) (1 : Int32) d17_22 (pc' := 25) rfl rfl rfl (by decide) rfl ?_
  refine W.goto d17_25 (pc' := 2) (by decide) rfl ?_
  refine W.iloadN d17_2 (pc' := 3) rfl rfl ?_
  refine W.aloadN d17_3 (pc' := 4) rfl rfl rfl ?_
  refine W.getF 0 11 d17_4 (host := "") (Or.inl (wd hw 144 rfl)) Via.refl rfl rfl (pc' := 7) rfl ?_
  refine W.icmpY d17_7 (by decide) (by decide) (pc' := 28) rfl ?_
  refine W.aloadN d17_28 (pc' := 29) rfl rfl rfl ?_
  refine W.aloadN d17_29 (pc' := 30) rfl rfl rfl ?_
  refine W.getF 0 9 d17_30 (host := "") (Or.inl (wd hw 93 rfl)) Via.refl rfl rfl (pc' := 33) rfl ?_
  refine W.putF ((t, (ShTS Z (.ref sl) (.ref ix) (.ref il) (.ref rv) (.int (1 : Int32)) (.ref va) (.ref le) (.ref ss) (.int (1 : Int32)) (.int (2 : Int32)) .null (.int (1 : Int32)) (.int (2 : Int32)) (.int (2 : Int32)))) :: (sl, (IA Z .int xs)) :: (rv, (IA Z .int (1 :: List.replicate 15 0))) :: (va, (IA Z .int (a :: b :: List.replicate 14 0))) :: (le, (LA Z ((0 : Int64) :: (0 : Int64) :: List.replicate 14 0))) :: (ss, (IA Z .byte (0 :: 4 :: List.replicate 14 0))) :: (il, (ShAL Z (.int (0 : Int32)) dv (.int (0 : Int32)))) :: F) 0 12 d17_33 (host := "") (Or.inl (wd hw 151 rfl)) Via.refl (Or.inl (wd hw 152 rfl)) (wd hw 1 rfl) (ty := .int) (by decide) rfl rfl rfl rfl rfl (pc' := 36) rfl ?_
  refine W.aloadN d17_36 (pc' := 37) rfl rfl rfl ?_
  refine W.iconst (0 : Int32) d17_37 (pc' := 38) rfl rfl ?_
  refine W.putF ((t, (ShTS Z (.ref sl) (.ref ix) (.ref il) (.ref rv) (.int (1 : Int32)) (.ref va) (.ref le) (.ref ss) (.int (1 : Int32)) (.int (2 : Int32)) .null (.int (0 : Int32)) (.int (2 : Int32)) (.int (2 : Int32)))) :: (sl, (IA Z .int xs)) :: (rv, (IA Z .int (1 :: List.replicate 15 0))) :: (va, (IA Z .int (a :: b :: List.replicate 14 0))) :: (le, (LA Z ((0 : Int64) :: (0 : Int64) :: List.replicate 14 0))) :: (ss, (IA Z .byte (0 :: 4 :: List.replicate 14 0))) :: (il, (ShAL Z (.int (0 : Int32)) dv (.int (0 : Int32)))) :: F) 0 11 d17_38 (host := "") (Or.inl (wd hw 144 rfl)) Via.refl (Or.inl (wd hw 145 rfl)) (wd hw 1 rfl) (ty := .int) (by decide) rfl rfl rfl rfl rfl (pc' := 41) rfl ?_
  refine W.aloadN d17_41 (pc' := 42) rfl rfl rfl ?_
  refine W.aloadN d17_42 (pc' := 43) rfl rfl rfl ?_
  refine W.getF 0 8 d17_43 (host := "") (Or.inl (wd hw 78 rfl)) Via.refl rfl rfl (pc' := 46) rfl ?_
  refine W.putF ((t, (ShTS Z (.ref sl) (.ref ix) (.ref il) (.ref rv) (.int (1 : Int32)) (.ref va) (.ref le) (.ref ss) (.int (1 : Int32)) (.int (2 : Int32)) .null (.int (0 : Int32)) (.int (2 : Int32)) (.int (1 : Int32)))) :: (sl, (IA Z .int xs)) :: (rv, (IA Z .int (1 :: List.replicate 15 0))) :: (va, (IA Z .int (a :: b :: List.replicate 14 0))) :: (le, (LA Z ((0 : Int64) :: (0 : Int64) :: List.replicate 14 0))) :: (ss, (IA Z .byte (0 :: 4 :: List.replicate 14 0))) :: (il, (ShAL Z (.int (0 : Int32)) dv (.int (0 : Int32)))) :: F) 0 13 d17_46 (host := "") (Or.inl (wd hw 153 rfl)) Via.refl (Or.inl (wd hw 154 rfl)) (wd hw 1 rfl) (ty := .int) (by decide) rfl rfl rfl rfl rfl (pc' := 49) rfl ?_
  exact W.retV d17_49 rfl (by decide) (by decide) ⟨rfl, rfl⟩
set_option maxRecDepth 65536 in
set_option maxHeartbeats 40000000 in
theorem remT32 (l : Launch) (Z : State) (n0 : Nat) (a0 : Array Value) (hw : ∀ d ∈ tables_1, d.before a0 Z = true) (F : Asn) (dv : Value) (hdr : dv.isRef = true) (t sl ix il rv va le ss : Addr) (a b : Int32) (xs : List Int32) (K : List Int32 → Prop) (p : Nat) (i3 i5 : Int32) (s6 : Slot) (hlx : xs.length = 32) (hp : p < 32) (hK : K (xs.set p 0)) : W l Z n0 ("com/example/mendb/mendb/TupleStore", "remove", prog_126_method_25_code, 7, none) ({ frames := 2, cells := 0, slots := 0, locals := 40 } : Room) (fun v σ' => v = none ∧ ∃ xs' : List Int32, xs'.length = 32 ∧ K xs' ∧ σ' = ((t, (ShTS Z (.ref sl) (.ref ix) (.ref il) (.ref rv) (.int (1 : Int32)) (.ref va) (.ref le) (.ref ss) (.int (1 : Int32)) (.int (2 : Int32)) .null (.int (1 : Int32)) (.int (0 : Int32)) (.int (0 : Int32)))) :: (sl, (IA Z .int xs')) :: (rv, (IA Z .int (List.replicate 16 0))) :: (va, (IA Z .int (a :: b :: List.replicate 14 0))) :: (le, (LA Z ((0 : Int64) :: (0 : Int64) :: List.replicate 14 0))) :: (ss, (IA Z .byte (3 :: List.replicate 15 0))) :: (il, (ShAL Z (.int (0 : Int32)) dv (.int (0 : Int32)))) :: F)) 0 0 ((t, (ShTS Z (.ref sl) (.ref ix) (.ref il) (.ref rv) (.int (1 : Int32)) (.ref va) (.ref le) (.ref ss) (.int (2 : Int32)) (.int (2 : Int32)) .null (.int (0 : Int32)) (.int (0 : Int32)) (.int (0 : Int32)))) :: (sl, (IA Z .int xs)) :: (rv, (IA Z .int (List.replicate 16 0))) :: (va, (IA Z .int (a :: b :: List.replicate 14 0))) :: (le, (LA Z ((0 : Int64) :: (0 : Int64) :: List.replicate 14 0))) :: (ss, (IA Z .byte (List.replicate 16 0))) :: (il, (ShAL Z (.int (0 : Int32)) dv (.int (0 : Int32)))) :: F) 139 #[.val (.ref t), .val (.int (0 : Int32)), .val (.int (31 : Int32)), .val (.int i3), .val (.int (Int32.ofNat p)), .val (.int i5), s6] [] := by
  refine W.aloadN d16_139 (pc' := 140) rfl rfl rfl ?_
  refine W.getF 0 0 d16_140 (host := "") (Or.inl (wd hw 10 rfl)) Via.refl rfl rfl (pc' := 143) rfl ?_
  refine W.iload d16_143 (pc' := 145) rfl rfl ?_
  refine W.iconst (0 : Int32) d16_145 (pc' := 146) rfl rfl ?_
  refine W.iastore ((t, (ShTS Z (.ref sl) (.ref ix) (.ref il) (.ref rv) (.int (1 : Int32)) (.ref va) (.ref le) (.ref ss) (.int (2 : Int32)) (.int (2 : Int32)) .null (.int (0 : Int32)) (.int (0 : Int32)) (.int (0 : Int32)))) :: (sl, (IA Z .int (xs.set p 0))) :: (rv, (IA Z .int (List.replicate 16 0))) :: (va, (IA Z .int (a :: b :: List.replicate 14 0))) :: (le, (LA Z ((0 : Int64) :: (0 : Int64) :: List.replicate 14 0))) :: (ss, (IA Z .byte (List.replicate 16 0))) :: (il, (ShAL Z (.int (0 : Int32)) dv (.int (0 : Int32)))) :: F) 1 p d16_146 rfl (own_nn hp) (own_tn hp) (by rw [hlx]; exact hp) rfl (pc' := 147) rfl ?_
  refine W.aloadN d16_147 (pc' := 148) rfl rfl rfl ?_
  refine W.getF 0 7 d16_148 (host := "") (Or.inl (wd hw 66 rfl)) Via.refl rfl rfl (pc' := 151) rfl ?_
  refine W.iloadN d16_151 (pc' := 152) rfl rfl ?_
  refine W.iconst (3 : Int32) d16_152 (pc' := 153) rfl rfl ?_
  refine W.bastore ((t, (ShTS Z (.ref sl) (.ref ix) (.ref il) (.ref rv) (.int (1 : Int32)) (.ref va) (.ref le) (.ref ss) (.int (2 : Int32)) (.int (2 : Int32)) .null (.int (0 : Int32)) (.int (0 : Int32)) (.int (0 : Int32)))) :: (sl, (IA Z .int (xs.set p 0))) :: (rv, (IA Z .int (List.replicate 16 0))) :: (va, (IA Z .int (a :: b :: List.replicate 14 0))) :: (le, (LA Z ((0 : Int64) :: (0 : Int64) :: List.replicate 14 0))) :: (ss, (IA Z .byte (3 :: List.replicate 15 0))) :: (il, (ShAL Z (.int (0 : Int32)) dv (.int (0 : Int32)))) :: F) 5 0 d16_153 rfl (by decide) rfl (Nat.le_of_ble_eq_true rfl) rfl (pc' := 154) rfl ?_
  refine W.aloadN d16_154 (pc' := 155) rfl rfl rfl ?_
  refine W.dup d16_155 (pc' := 156) rfl rfl ?_
  refine W.getF 0 8 d16_156 (host := "") (Or.inl (wd hw 78 rfl)) Via.refl rfl rfl (pc' := 159) rfl ?_
  refine W.iconst (1 : Int32) d16_159 (pc' := 160) rfl rfl ?_
  refine W.isub d16_160 (pc' := 161) rfl ?_
  refine W.topI (1 : Int32) (by decide) ?_
  refine W.putF ((t, (ShTS Z (.ref sl) (.ref ix) (.ref il) (.ref rv) (.int (1 : Int32)) (.ref va) (.ref le) (.ref ss) (.int (1 : Int32)) (.int (2 : Int32)) .null (.int (0 : Int32)) (.int (0 : Int32)) (.int (0 : Int32)))) :: (sl, (IA Z .int (xs.set p 0))) :: (rv, (IA Z .int (List.replicate 16 0))) :: (va, (IA Z .int (a :: b :: List.replicate 14 0))) :: (le, (LA Z ((0 : Int64) :: (0 : Int64) :: List.replicate 14 0))) :: (ss, (IA Z .byte (3 :: List.replicate 15 0))) :: (il, (ShAL Z (.int (0 : Int32)) dv (.int (0 : Int32)))) :: F) 0 8 d16_161 (host := "") (Or.inl (wd hw 78 rfl)) Via.refl (Or.inl (wd hw 79 rfl)) (wd hw 1 rfl) (ty := .int) (by decide) rfl rfl rfl rfl rfl (pc' := 164) rfl ?_
  refine W.aloadN d16_164 (pc' := 165) rfl rfl rfl ?_
  refine W.getF 0 11 d16_165 (host := "") (Or.inl (wd hw 144 rfl)) Via.refl rfl rfl (pc' := 168) rfl ?_
  refine W.aloadN d16_168 (pc' := 169) rfl rfl rfl ?_
  refine W.getF 0 3 d16_169 (host := "") (Or.inl (wd hw 56 rfl)) Via.refl rfl rfl (pc' := 172) rfl ?_
  refine W.len 2 (16 : Int32) d16_172 rfl rfl (pc' := 173) rfl ?_
  refine W.icmpY d16_173 (by decide) (by decide) (pc' := 193) rfl ?_
  refine W.aloadN d16_193 (pc' := 194) rfl rfl rfl ?_
  refine W.getF 0 3 d16_194 (host := "") (Or.inl (wd hw 56 rfl)) Via.refl rfl rfl (pc' := 197) rfl ?_
  refine W.aloadN d16_197 (pc' := 198) rfl rfl rfl ?_
  refine W.getF 0 11 d16_198 (host := "") (Or.inl (wd hw 144 rfl)) Via.refl rfl rfl (pc' := 201) rfl ?_
  refine W.iloadN d16_201 (pc' := 202) rfl rfl ?_
  refine W.iastore ((t, (ShTS Z (.ref sl) (.ref ix) (.ref il) (.ref rv) (.int (1 : Int32)) (.ref va) (.ref le) (.ref ss) (.int (1 : Int32)) (.int (2 : Int32)) .null (.int (0 : Int32)) (.int (0 : Int32)) (.int (0 : Int32)))) :: (sl, (IA Z .int (xs.set p 0))) :: (rv, (IA Z .int (List.replicate 16 0))) :: (va, (IA Z .int (a :: b :: List.replicate 14 0))) :: (le, (LA Z ((0 : Int64) :: (0 : Int64) :: List.replicate 14 0))) :: (ss, (IA Z .byte (3 :: List.replicate 15 0))) :: (il, (ShAL Z (.int (0 : Int32)) dv (.int (0 : Int32)))) :: F) 2 0 d16_202 rfl (by decide) rfl (Nat.le_of_ble_eq_true rfl) rfl (pc' := 203) rfl ?_
  refine W.aloadN d16_203 (pc' := 204) rfl rfl rfl ?_
  refine W.dup d16_204 (pc' := 205) rfl rfl ?_
  refine W.getF 0 11 d16_205 (host := "") (Or.inl (wd hw 144 rfl)) Via.refl rfl rfl (pc' := 208) rfl ?_
  refine W.iconst (1 : Int32) d16_208 (pc' := 209) rfl rfl ?_
  refine W.iadd d16_209 (pc' := 210) rfl ?_
  refine W.topI (1 : Int32) (by decide) ?_
  refine W.putF ((t, (ShTS Z (.ref sl) (.ref ix) (.ref il) (.ref rv) (.int (1 : Int32)) (.ref va) (.ref le) (.ref ss) (.int (1 : Int32)) (.int (2 : Int32)) .null (.int (1 : Int32)) (.int (0 : Int32)) (.int (0 : Int32)))) :: (sl, (IA Z .int (xs.set p 0))) :: (rv, (IA Z .int (List.replicate 16 0))) :: (va, (IA Z .int (a :: b :: List.replicate 14 0))) :: (le, (LA Z ((0 : Int64) :: (0 : Int64) :: List.replicate 14 0))) :: (ss, (IA Z .byte (3 :: List.replicate 15 0))) :: (il, (ShAL Z (.int (0 : Int32)) dv (.int (0 : Int32)))) :: F) 0 11 d16_210 (host := "") (Or.inl (wd hw 144 rfl)) Via.refl (Or.inl (wd hw 145 rfl)) (wd hw 1 rfl) (ty := .int) (by decide) rfl rfl rfl rfl rfl (pc' := 213) rfl ?_
  exact W.retV d16_213 rfl (by decide) (by decide) ⟨rfl, _, by rw [List.length_set]; exact hlx, hK, rfl⟩
theorem pn_mRem33 : plainFor (⟨"com/example/mendb/mendb/TupleStore", "remove", "(I)V"⟩ : MethodName) = true := by first | (refine plainFor_of_name ?_; simp [plainName, overriddenIn]; done) | (refine plainFor_of_name ?_; decide +kernel) | decide +kernel
set_option maxRecDepth 65536 in
set_option maxHeartbeats 40000000 in
theorem mRem33 (l : Launch) (Z : State) (n0 : Nat) (a0 : Array Value) (hw : ∀ d ∈ tables_1, d.before a0 Z = true) (F : Asn) (dv : Value) (hdr : dv.isRef = true) (t sl ix il rv va le ss : Addr) (a b : Int32) : Sp l Z n0 (⟨"com/example/mendb/mendb/TupleStore", "remove", "(I)V"⟩ : MethodName) prog_126_method_25_code 7 none ({ frames := 2, cells := 0, slots := 0, locals := 40 } : Room) [(.ref t), (.int (0 : Int32))] ((t, (ShTS Z (.ref sl) (.ref ix) (.ref il) (.ref rv) (.int (1 : Int32)) (.ref va) (.ref le) (.ref ss) (.int (2 : Int32)) (.int (2 : Int32)) .null (.int (0 : Int32)) (.int (0 : Int32)) (.int (0 : Int32)))) :: (sl, (IA Z .int (own_two (own_s a) (own_pb a b)))) :: (rv, (IA Z .int (List.replicate 16 0))) :: (va, (IA Z .int (a :: b :: List.replicate 14 0))) :: (le, (LA Z ((0 : Int64) :: (0 : Int64) :: List.replicate 14 0))) :: (ss, (IA Z .byte (List.replicate 16 0))) :: (il, (ShAL Z (.int (0 : Int32)) dv (.int (0 : Int32)))) :: F) (fun v σ' => v = none ∧ ∃ xs' : List Int32, xs'.length = 32 ∧ (fun xs' => xs'[own_s b]? = some 2 ∧ xs'[(own_s b + 1) % 32]? = some 0) xs' ∧ σ' = ((t, (ShTS Z (.ref sl) (.ref ix) (.ref il) (.ref rv) (.int (1 : Int32)) (.ref va) (.ref le) (.ref ss) (.int (1 : Int32)) (.int (2 : Int32)) .null (.int (1 : Int32)) (.int (0 : Int32)) (.int (0 : Int32)))) :: (sl, (IA Z .int xs')) :: (rv, (IA Z .int (List.replicate 16 0))) :: (va, (IA Z .int (a :: b :: List.replicate 14 0))) :: (le, (LA Z ((0 : Int64) :: (0 : Int64) :: List.replicate 14 0))) :: (ss, (IA Z .byte (3 :: List.replicate 15 0))) :: (il, (ShAL Z (.int (0 : Int32)) dv (.int (0 : Int32)))) :: F)) := by
  refine Sp.of (ls := #[.val (.ref t), .val (.int (0 : Int32)), .unset, .unset, .unset, .unset, .unset]) pn_mRem33 (fun m => by first | (simp [entryFrame, mkF, argsToLocals, Value.category]; done) | rfl) ?_
  show W _ _ _ _ _ _ 0 0 ((t, (ShTS Z (.ref sl) (.ref ix) (.ref il) (.ref rv) (.int (1 : Int32)) (.ref va) (.ref le) (.ref ss) (.int (2 : Int32)) (.int (2 : Int32)) .null (.int (0 : Int32)) (.int (0 : Int32)) (.int (0 : Int32)))) :: (sl, (IA Z .int (own_two (own_s a) (own_pb a b)))) :: (rv, (IA Z .int (List.replicate 16 0))) :: (va, (IA Z .int (a :: b :: List.replicate 14 0))) :: (le, (LA Z ((0 : Int64) :: (0 : Int64) :: List.replicate 14 0))) :: (ss, (IA Z .byte (List.replicate 16 0))) :: (il, (ShAL Z (.int (0 : Int32)) dv (.int (0 : Int32)))) :: F) 0 #[.val (.ref t), .val (.int (0 : Int32)), .unset, .unset, .unset, .unset, .unset] []
  have la := own_s_lt a
  have lb := own_s_lt b
  have lp := own_pb_lt a b
  have np := own_pb_ne a b
  refine W.aloadN d16_0 (pc' := 1) rfl rfl rfl ?_
  refine W.getF 0 0 d16_1 (host := "") (Or.inl (wd hw 10 rfl)) Via.refl rfl rfl (pc' := 4) rfl ?_
  refine W.len 1 (32 : Int32) d16_4 rfl (by rw [own_two_len]; rfl) (pc' := 5) rfl ?_
  refine W.iconst (1 : Int32) d16_5 (pc' := 6) rfl rfl ?_
  refine W.isub d16_6 (pc' := 7) rfl ?_
  refine W.topI (31 : Int32) (by decide) ?_
  refine W.istoreN #[.val (.ref t), .val (.int (0 : Int32)), .val (.int (31 : Int32)), .unset, .unset, .unset, .unset] d16_7 (pc' := 8) rfl rfl ?_
  refine W.aloadN d16_8 (pc' := 9) rfl rfl rfl ?_
  refine W.aloadN d16_9 (pc' := 10) rfl rfl rfl ?_
  refine W.getF 0 5 d16_10 (host := "") (Or.inl (wd hw 60 rfl)) Via.refl rfl rfl (pc' := 13) rfl ?_
  refine W.iloadN d16_13 (pc' := 14) rfl rfl ?_
  refine W.aloadN d16_14 (pc' := 15) rfl rfl rfl ?_
  refine W.getF 0 4 d16_15 (host := "") (Or.inl (wd hw 58 rfl)) Via.refl rfl rfl (pc' := 18) rfl ?_
  refine W.imul d16_18 (pc' := 19) rfl ?_
  refine W.topI (0 : Int32) (by decide) ?_
  refine W.pulls ((t, (ShTS Z (.ref sl) (.ref ix) (.ref il) (.ref rv) (.int (1 : Int32)) (.ref va) (.ref le) (.ref ss) (.int (2 : Int32)) (.int (2 : Int32)) .null (.int (0 : Int32)) (.int (0 : Int32)) (.int (0 : Int32)))) :: (va, (IA Z .int (a :: b :: List.replicate 14 0))) :: (sl, (IA Z .int (own_two (own_s a) (own_pb a b)))) :: (rv, (IA Z .int (List.replicate 16 0))) :: (le, (LA Z ((0 : Int64) :: (0 : Int64) :: List.replicate 14 0))) :: (ss, (IA Z .byte (List.replicate 16 0))) :: (il, (ShAL Z (.int (0 : Int32)) dv (.int (0 : Int32)))) :: F) [3, 1] rfl ?_
  refine W.callP 0 rfl (mHash0 l Z n0 a0 hw ((sl, (IA Z .int (own_two (own_s a) (own_pb a b)))) :: (rv, (IA Z .int (List.replicate 16 0))) :: (le, (LA Z ((0 : Int64) :: (0 : Int64) :: List.replicate 14 0))) :: (ss, (IA Z .byte (List.replicate 16 0))) :: (il, (ShAL Z (.int (0 : Int32)) dv (.int (0 : Int32)))) :: F) t va (.ref sl) (.ref ix) (.ref il) (.ref rv) (.ref va) (.ref le) (.ref ss) (.int (2 : Int32)) (.int (2 : Int32)) .null (.int (0 : Int32)) (.int (0 : Int32)) (.int (0 : Int32)) (a :: b :: List.replicate 14 0) a rfl) d16_19 (wd hw 80 rfl) (wd hw 81 rfl) (wd hw 82 rfl) (wd hw 1 rfl) (wd hw 2 rfl) (wd hw 83 rfl) (by decide) pd6 rfl rfl (Nat.le_of_ble_eq_true rfl) (Nat.le_of_ble_eq_true rfl) (Nat.le_of_ble_eq_true rfl) (Nat.le_of_ble_eq_true rfl) rfl (pc' := 22) rfl ?_
  intro v9 s9 q9
  rw [q9.1, q9.2]
  clear q9 v9 s9
  show W _ _ _ _ _ _ 0 0 ((t, (ShTS Z (.ref sl) (.ref ix) (.ref il) (.ref rv) (.int (1 : Int32)) (.ref va) (.ref le) (.ref ss) (.int (2 : Int32)) (.int (2 : Int32)) .null (.int (0 : Int32)) (.int (0 : Int32)) (.int (0 : Int32)))) :: (va, (IA Z .int (a :: b :: List.replicate 14 0))) :: (sl, (IA Z .int (own_two (own_s a) (own_pb a b)))) :: (rv, (IA Z .int (List.replicate 16 0))) :: (le, (LA Z ((0 : Int64) :: (0 : Int64) :: List.replicate 14 0))) :: (ss, (IA Z .byte (List.replicate 16 0))) :: (il, (ShAL Z (.int (0 : Int32)) dv (.int (0 : Int32)))) :: F) 22 #[.val (.ref t), .val (.int (0 : Int32)), .val (.int (31 : Int32)), .unset, .unset, .unset, .unset] [(.int (own_h a))]
  refine W.iloadN d16_22 (pc' := 23) rfl rfl ?_
  refine W.iand d16_23 (pc' := 24) rfl ?_
  refine W.topI (Int32.ofNat (own_s a)) (own_slot a) ?_
  refine W.pulls ((t, (ShTS Z (.ref sl) (.ref ix) (.ref il) (.ref rv) (.int (1 : Int32)) (.ref va) (.ref le) (.ref ss) (.int (2 : Int32)) (.int (2 : Int32)) .null (.int (0 : Int32)) (.int (0 : Int32)) (.int (0 : Int32)))) :: (sl, (IA Z .int (own_two (own_s a) (own_pb a b)))) :: (rv, (IA Z .int (List.replicate 16 0))) :: (va, (IA Z .int (a :: b :: List.replicate 14 0))) :: (le, (LA Z ((0 : Int64) :: (0 : Int64) :: List.replicate 14 0))) :: (ss, (IA Z .byte (List.replicate 16 0))) :: (il, (ShAL Z (.int (0 : Int32)) dv (.int (0 : Int32)))) :: F) [3, 3, 2] rfl ?_
  refine W.istoreN #[.val (.ref t), .val (.int (0 : Int32)), .val (.int (31 : Int32)), .val (.int (Int32.ofNat (own_s a))), .unset, .unset, .unset] d16_24 (pc' := 25) rfl rfl ?_
  refine W.aloadN d16_25 (pc' := 26) rfl rfl rfl ?_
  refine W.getF 0 0 d16_26 (host := "") (Or.inl (wd hw 10 rfl)) Via.refl rfl rfl (pc' := 29) rfl ?_
  refine W.iloadN d16_29 (pc' := 30) rfl rfl ?_
  refine W.iaload 1 (own_s a) (x := 1) d16_30 rfl (own_nn (by omega)) (own_tn (by omega)) (by rw [own_two_at la, if_neg np, if_pos rfl]) (pc' := 31) rfl ?_
  refine W.iloadN d16_31 (pc' := 32) rfl rfl ?_
  refine W.iconst (1 : Int32) d16_32 (pc' := 33) rfl rfl ?_
  refine W.iadd d16_33 (pc' := 34) rfl ?_
  refine W.topI (1 : Int32) (by decide) ?_
  refine W.icmpY d16_34 (by decide) (by decide) (pc' := 46) rfl ?_
  refine W.iloadN d16_46 (pc' := 47) rfl rfl ?_
  refine W.istore #[.val (.ref t), .val (.int (0 : Int32)), .val (.int (31 : Int32)), .val (.int (Int32.ofNat (own_s a))), .val (.int (Int32.ofNat (own_s a))), .unset, .unset] d16_47 (pc' := 49) rfl rfl ?_
  refine W.iload d16_49 (pc' := 51) rfl rfl ?_
  refine W.iconst (1 : Int32) d16_51 (pc' := 52) rfl rfl ?_
  refine W.iadd d16_52 (pc' := 53) rfl ?_
  refine W.iloadN d16_53 (pc' := 54) rfl rfl ?_
  refine W.iand d16_54 (pc' := 55) rfl ?_
  refine W.topI (Int32.ofNat ((own_s a + 1) % 32)) (own_inc (p := own_s a) (by omega)) ?_
  refine W.istore #[.val (.ref t), .val (.int (0 : Int32)), .val (.int (31 : Int32)), .val (.int (Int32.ofNat (own_s a))), .val (.int (Int32.ofNat (own_s a))), .val (.int (Int32.ofNat ((own_s a + 1) % 32))), .unset] d16_55 (pc' := 57) rfl rfl ?_
  refine W.aloadN d16_57 (pc' := 58) rfl rfl rfl ?_
  refine W.getF 0 0 d16_58 (host := "") (Or.inl (wd hw 10 rfl)) Via.refl rfl rfl (pc' := 61) rfl ?_
  refine W.iload d16_61 (pc' := 63) rfl rfl ?_
  by_cases hn : own_pb a b = ((own_s a + 1) % 32)
  · refine W.iaload 1 (((own_s a + 1) % 32)) (x := 2) d16_63 rfl (own_nn (by omega)) (own_tn (by omega)) (by rw [own_two_at (by omega), if_pos hn]) (pc' := 64) rfl ?_
    refine W.ifN d16_64 (by decide) (pc' := 67) rfl ?_
    refine W.aloadN d16_67 (pc' := 68) rfl rfl rfl ?_
    refine W.aloadN d16_68 (pc' := 69) rfl rfl rfl ?_
    refine W.getF 0 5 d16_69 (host := "") (Or.inl (wd hw 60 rfl)) Via.refl rfl rfl (pc' := 72) rfl ?_
    refine W.aloadN d16_72 (pc' := 73) rfl rfl rfl ?_
    refine W.getF 0 0 d16_73 (host := "") (Or.inl (wd hw 10 rfl)) Via.refl rfl rfl (pc' := 76) rfl ?_
    refine W.iload d16_76 (pc' := 78) rfl rfl ?_
    refine W.iaload 1 (((own_s a + 1) % 32)) (x := 2) d16_78 rfl (own_nn (by omega)) (own_tn (by omega)) (by rw [own_two_at (by omega), if_pos hn]) (pc' := 79) rfl ?_
    refine W.iconst (1 : Int32) d16_79 (pc' := 80) rfl rfl ?_
    refine W.isub d16_80 (pc' := 81) rfl ?_
    refine W.topI (1 : Int32) (by decide) ?_
    refine W.aloadN d16_81 (pc' := 82) rfl rfl rfl ?_
    refine W.getF 0 4 d16_82 (host := "") (Or.inl (wd hw 58 rfl)) Via.refl rfl rfl (pc' := 85) rfl ?_
    refine W.imul d16_85 (pc' := 86) rfl ?_
    refine W.topI (1 : Int32) (by decide) ?_
    refine W.pulls ((t, (ShTS Z (.ref sl) (.ref ix) (.ref il) (.ref rv) (.int (1 : Int32)) (.ref va) (.ref le) (.ref ss) (.int (2 : Int32)) (.int (2 : Int32)) .null (.int (0 : Int32)) (.int (0 : Int32)) (.int (0 : Int32)))) :: (va, (IA Z .int (a :: b :: List.replicate 14 0))) :: (sl, (IA Z .int (own_two (own_s a) (own_pb a b)))) :: (rv, (IA Z .int (List.replicate 16 0))) :: (le, (LA Z ((0 : Int64) :: (0 : Int64) :: List.replicate 14 0))) :: (ss, (IA Z .byte (List.replicate 16 0))) :: (il, (ShAL Z (.int (0 : Int32)) dv (.int (0 : Int32)))) :: F) [3, 1] rfl ?_
    refine W.callP 0 rfl (mHash1 l Z n0 a0 hw ((sl, (IA Z .int (own_two (own_s a) (own_pb a b)))) :: (rv, (IA Z .int (List.replicate 16 0))) :: (le, (LA Z ((0 : Int64) :: (0 : Int64) :: List.replicate 14 0))) :: (ss, (IA Z .byte (List.replicate 16 0))) :: (il, (ShAL Z (.int (0 : Int32)) dv (.int (0 : Int32)))) :: F) t va (.ref sl) (.ref ix) (.ref il) (.ref rv) (.ref va) (.ref le) (.ref ss) (.int (2 : Int32)) (.int (2 : Int32)) .null (.int (0 : Int32)) (.int (0 : Int32)) (.int (0 : Int32)) (a :: b :: List.replicate 14 0) b rfl) d16_86 (wd hw 80 rfl) (wd hw 81 rfl) (wd hw 82 rfl) (wd hw 1 rfl) (wd hw 2 rfl) (wd hw 83 rfl) (by decide) pd6 rfl rfl (Nat.le_of_ble_eq_true rfl) (Nat.le_of_ble_eq_true rfl) (Nat.le_of_ble_eq_true rfl) (Nat.le_of_ble_eq_true rfl) rfl (pc' := 89) rfl ?_
    intro v9 s9 q9
    rw [q9.1, q9.2]
    clear q9 v9 s9
    show W _ _ _ _ _ _ 0 0 ((t, (ShTS Z (.ref sl) (.ref ix) (.ref il) (.ref rv) (.int (1 : Int32)) (.ref va) (.ref le) (.ref ss) (.int (2 : Int32)) (.int (2 : Int32)) .null (.int (0 : Int32)) (.int (0 : Int32)) (.int (0 : Int32)))) :: (va, (IA Z .int (a :: b :: List.replicate 14 0))) :: (sl, (IA Z .int (own_two (own_s a) (own_pb a b)))) :: (rv, (IA Z .int (List.replicate 16 0))) :: (le, (LA Z ((0 : Int64) :: (0 : Int64) :: List.replicate 14 0))) :: (ss, (IA Z .byte (List.replicate 16 0))) :: (il, (ShAL Z (.int (0 : Int32)) dv (.int (0 : Int32)))) :: F) 89 #[.val (.ref t), .val (.int (0 : Int32)), .val (.int (31 : Int32)), .val (.int (Int32.ofNat (own_s a))), .val (.int (Int32.ofNat (own_s a))), .val (.int (Int32.ofNat ((own_s a + 1) % 32))), .unset] [(.int (own_h b))]
    refine W.iloadN d16_89 (pc' := 90) rfl rfl ?_
    refine W.iand d16_90 (pc' := 91) rfl ?_
    refine W.topI (Int32.ofNat (own_s b)) (own_slot b) ?_
    refine W.pulls ((t, (ShTS Z (.ref sl) (.ref ix) (.ref il) (.ref rv) (.int (1 : Int32)) (.ref va) (.ref le) (.ref ss) (.int (2 : Int32)) (.int (2 : Int32)) .null (.int (0 : Int32)) (.int (0 : Int32)) (.int (0 : Int32)))) :: (sl, (IA Z .int (own_two (own_s a) (own_pb a b)))) :: (rv, (IA Z .int (List.replicate 16 0))) :: (va, (IA Z .int (a :: b :: List.replicate 14 0))) :: (le, (LA Z ((0 : Int64) :: (0 : Int64) :: List.replicate 14 0))) :: (ss, (IA Z .byte (List.replicate 16 0))) :: (il, (ShAL Z (.int (0 : Int32)) dv (.int (0 : Int32)))) :: F) [3, 3, 2] rfl ?_
    by_cases hs : own_s b = own_s a
    · refine W.topI (Int32.ofNat (own_s a)) (congrArg Int32.ofNat hs) ?_
      refine W.istore #[.val (.ref t), .val (.int (0 : Int32)), .val (.int (31 : Int32)), .val (.int (Int32.ofNat (own_s a))), .val (.int (Int32.ofNat (own_s a))), .val (.int (Int32.ofNat ((own_s a + 1) % 32))), .val (.int (Int32.ofNat (own_s a)))] d16_91 (pc' := 93) rfl rfl ?_
      refine W.iload d16_93 (pc' := 95) rfl rfl ?_
      refine W.iload d16_95 (pc' := 97) rfl rfl ?_
      refine W.isub d16_97 (pc' := 98) rfl ?_
      refine W.iloadN d16_98 (pc' := 99) rfl rfl ?_
      refine W.iand d16_99 (pc' := 100) rfl ?_
      refine W.topI (1 : Int32) (own_d1 la) ?_
      refine W.iload d16_100 (pc' := 102) rfl rfl ?_
      refine W.iload d16_102 (pc' := 104) rfl rfl ?_
      refine W.isub d16_104 (pc' := 105) rfl ?_
      refine W.iloadN d16_105 (pc' := 106) rfl rfl ?_
      refine W.iand d16_106 (pc' := 107) rfl ?_
      refine W.topI (1 : Int32) (own_d1 la) ?_
      refine W.icmpN d16_107 (by decide) (pc' := 110) rfl ?_
      refine W.aloadN d16_110 (pc' := 111) rfl rfl rfl ?_
      refine W.getF 0 0 d16_111 (host := "") (Or.inl (wd hw 10 rfl)) Via.refl rfl rfl (pc' := 114) rfl ?_
      refine W.iload d16_114 (pc' := 116) rfl rfl ?_
      refine W.aloadN d16_116 (pc' := 117) rfl rfl rfl ?_
      refine W.getF 0 0 d16_117 (host := "") (Or.inl (wd hw 10 rfl)) Via.refl rfl rfl (pc' := 120) rfl ?_
      refine W.iload d16_120 (pc' := 122) rfl rfl ?_
      refine W.iaload 1 (((own_s a + 1) % 32)) (x := 2) d16_122 rfl (own_nn (by omega)) (own_tn (by omega)) (by rw [own_two_at (by omega), if_pos hn]) (pc' := 123) rfl ?_
      refine W.iastore ((t, (ShTS Z (.ref sl) (.ref ix) (.ref il) (.ref rv) (.int (1 : Int32)) (.ref va) (.ref le) (.ref ss) (.int (2 : Int32)) (.int (2 : Int32)) .null (.int (0 : Int32)) (.int (0 : Int32)) (.int (0 : Int32)))) :: (sl, (IA Z .int ((own_two (own_s a) (own_pb a b)).set (own_s a) 2))) :: (rv, (IA Z .int (List.replicate 16 0))) :: (va, (IA Z .int (a :: b :: List.replicate 14 0))) :: (le, (LA Z ((0 : Int64) :: (0 : Int64) :: List.replicate 14 0))) :: (ss, (IA Z .byte (List.replicate 16 0))) :: (il, (ShAL Z (.int (0 : Int32)) dv (.int (0 : Int32)))) :: F) 1 (own_s a) d16_123 rfl (own_nn (by omega)) (own_tn (by omega)) (by rw [own_two_len]; omega) rfl (pc' := 124) rfl ?_
      refine W.iload d16_124 (pc' := 126) rfl rfl ?_
      refine W.istore #[.val (.ref t), .val (.int (0 : Int32)), .val (.int (31 : Int32)), .val (.int (Int32.ofNat (own_s a))), .val (.int (Int32.ofNat ((own_s a + 1) % 32))), .val (.int (Int32.ofNat ((own_s a + 1) % 32))), .val (.int (Int32.ofNat (own_s a)))] d16_126 (pc' := 128) rfl rfl ?_
      refine W.iload d16_128 (pc' := 130) rfl rfl ?_
      refine W.iconst (1 : Int32) d16_130 (pc' := 131) rfl rfl ?_
      refine W.iadd d16_131 (pc' := 132) rfl ?_
      refine W.iloadN d16_132 (pc' := 133) rfl rfl ?_
      refine W.iand d16_133 (pc' := 134) rfl ?_
      refine W.topI (Int32.ofNat ((((own_s a + 1) % 32) + 1) % 32)) (own_inc (p := ((own_s a + 1) % 32)) (by omega)) ?_
      refine W.istore #[.val (.ref t), .val (.int (0 : Int32)), .val (.int (31 : Int32)), .val (.int (Int32.ofNat (own_s a))), .val (.int (Int32.ofNat ((own_s a + 1) % 32))), .val (.int (Int32.ofNat ((((own_s a + 1) % 32) + 1) % 32))), .val (.int (Int32.ofNat (own_s a)))] d16_134 (pc' := 136) rfl rfl ?_
      refine W.goto d16_136 (pc' := 57) (by decide) rfl ?_
      refine W.aloadN d16_57 (pc' := 58) rfl rfl rfl ?_
      refine W.getF 0 0 d16_58 (host := "") (Or.inl (wd hw 10 rfl)) Via.refl rfl rfl (pc' := 61) rfl ?_
      refine W.iload d16_61 (pc' := 63) rfl rfl ?_
      refine W.iaload 1 ((((own_s a + 1) % 32) + 1) % 32) (x := 0) d16_63 rfl (own_nn (by omega)) (own_tn (by omega)) (by rw [List.getElem?_set, if_neg (by omega), own_two_at (by omega), if_neg (by omega), if_neg (by omega)]) (pc' := 64) rfl ?_
      refine W.ifY d16_64 (by decide) (by decide) (pc' := 139) rfl ?_
      exact remT32 l Z n0 a0 hw F dv hdr t sl ix il rv va le ss a b ((own_two (own_s a) (own_pb a b)).set (own_s a) 2) (fun xs' => xs'[own_s b]? = some 2 ∧ xs'[(own_s b + 1) % 32]? = some 0) ((own_s a + 1) % 32) _ _ _ (by rw [List.length_set, own_two_len]) (by omega) ⟨by rw [hs, List.getElem?_set, if_neg (by omega), List.getElem?_set, if_pos rfl, own_two_len, if_pos (by omega)], by rw [hs, List.getElem?_set, if_pos rfl, List.length_set, own_two_len, if_pos (by omega)]⟩
    · have hsb : own_s b = ((own_s a + 1) % 32) := by unfold own_pb at hn; rwa [if_neg hs] at hn
      refine W.topI (Int32.ofNat ((own_s a + 1) % 32)) (congrArg Int32.ofNat hsb) ?_
      refine W.istore #[.val (.ref t), .val (.int (0 : Int32)), .val (.int (31 : Int32)), .val (.int (Int32.ofNat (own_s a))), .val (.int (Int32.ofNat (own_s a))), .val (.int (Int32.ofNat ((own_s a + 1) % 32))), .val (.int (Int32.ofNat ((own_s a + 1) % 32)))] d16_91 (pc' := 93) rfl rfl ?_
      refine W.iload d16_93 (pc' := 95) rfl rfl ?_
      refine W.iload d16_95 (pc' := 97) rfl rfl ?_
      refine W.isub d16_97 (pc' := 98) rfl ?_
      refine W.iloadN d16_98 (pc' := 99) rfl rfl ?_
      refine W.iand d16_99 (pc' := 100) rfl ?_
      refine W.topI (0 : Int32) (own_d0 (p := ((own_s a + 1) % 32)) (by omega)) ?_
      refine W.iload d16_100 (pc' := 102) rfl rfl ?_
      refine W.iload d16_102 (pc' := 104) rfl rfl ?_
      refine W.isub d16_104 (pc' := 105) rfl ?_
      refine W.iloadN d16_105 (pc' := 106) rfl rfl ?_
      refine W.iand d16_106 (pc' := 107) rfl ?_
      refine W.topI (1 : Int32) (own_d1 la) ?_
      refine W.icmpY d16_107 (by decide) (by decide) (pc' := 128) rfl ?_
      refine W.iload d16_128 (pc' := 130) rfl rfl ?_
      refine W.iconst (1 : Int32) d16_130 (pc' := 131) rfl rfl ?_
      refine W.iadd d16_131 (pc' := 132) rfl ?_
      refine W.iloadN d16_132 (pc' := 133) rfl rfl ?_
      refine W.iand d16_133 (pc' := 134) rfl ?_
      refine W.topI (Int32.ofNat ((((own_s a + 1) % 32) + 1) % 32)) (own_inc (p := ((own_s a + 1) % 32)) (by omega)) ?_
      refine W.istore #[.val (.ref t), .val (.int (0 : Int32)), .val (.int (31 : Int32)), .val (.int (Int32.ofNat (own_s a))), .val (.int (Int32.ofNat (own_s a))), .val (.int (Int32.ofNat ((((own_s a + 1) % 32) + 1) % 32))), .val (.int (Int32.ofNat ((own_s a + 1) % 32)))] d16_134 (pc' := 136) rfl rfl ?_
      refine W.goto d16_136 (pc' := 57) (by decide) rfl ?_
      refine W.aloadN d16_57 (pc' := 58) rfl rfl rfl ?_
      refine W.getF 0 0 d16_58 (host := "") (Or.inl (wd hw 10 rfl)) Via.refl rfl rfl (pc' := 61) rfl ?_
      refine W.iload d16_61 (pc' := 63) rfl rfl ?_
      refine W.iaload 1 ((((own_s a + 1) % 32) + 1) % 32) (x := 0) d16_63 rfl (own_nn (by omega)) (own_tn (by omega)) (by rw [own_two_at (by omega), if_neg (by omega), if_neg (by omega)]) (pc' := 64) rfl ?_
      refine W.ifY d16_64 (by decide) (by decide) (pc' := 139) rfl ?_
      exact remT32 l Z n0 a0 hw F dv hdr t sl ix il rv va le ss a b (own_two (own_s a) (own_pb a b)) (fun xs' => xs'[own_s b]? = some 2 ∧ xs'[(own_s b + 1) % 32]? = some 0) (own_s a) _ _ _ (own_two_len _ _) (by omega) ⟨by rw [hsb, List.getElem?_set, if_neg (by omega), own_two_at (by omega), if_pos hn], by rw [hsb, List.getElem?_set, if_neg (by omega), own_two_at (by omega), if_neg (by omega), if_neg (by omega)]⟩
  · refine W.iaload 1 (((own_s a + 1) % 32)) (x := 0) d16_63 rfl (own_nn (by omega)) (own_tn (by omega)) (by rw [own_two_at (by omega), if_neg hn, if_neg (by omega)]) (pc' := 64) rfl ?_
    refine W.ifY d16_64 (by decide) (by decide) (pc' := 139) rfl ?_
    have hsb : own_pb a b = own_s b := by unfold own_pb at hn ⊢; split at hn <;> simp_all
    exact remT32 l Z n0 a0 hw F dv hdr t sl ix il rv va le ss a b (own_two (own_s a) (own_pb a b)) (fun xs' => xs'[own_s b]? = some 2 ∧ xs'[(own_s b + 1) % 32]? = some 0) (own_s a) _ _ _ (own_two_len _ _) (by omega) ⟨by rw [List.getElem?_set, if_neg (by omega), own_two_at (by omega), if_pos hsb], by rw [List.getElem?_set, own_two_len, own_two_at (by omega)]; by_cases q : own_s a = (own_s b + 1) % 32 <;> simp [q] <;> omega⟩
theorem pn_mBC34 : plainFor (⟨"com/example/mendb/mendb/TupleStore", "beginCommit", "()V"⟩ : MethodName) = true := by first | (refine plainFor_of_name ?_; simp [plainName, overriddenIn]; done) | (refine plainFor_of_name ?_; decide +kernel) | decide +kernel
set_option maxRecDepth 65536 in
set_option maxHeartbeats 40000000 in
theorem mBC34 (l : Launch) (Z : State) (n0 : Nat) (a0 : Array Value) (hw : ∀ d ∈ tables_1, d.before a0 Z = true) (F : Asn) (dv : Value) (hdr : dv.isRef = true) (t sl ix il rv va le ss : Addr) (a b : Int32) (xs : List Int32) : Sp l Z n0 (⟨"com/example/mendb/mendb/TupleStore", "beginCommit", "()V"⟩ : MethodName) prog_126_method_26_code 2 none ({ frames := 0, cells := 0, slots := 0, locals := 0 } : Room) [(.ref t)] ((t, (ShTS Z (.ref sl) (.ref ix) (.ref il) (.ref rv) (.int (1 : Int32)) (.ref va) (.ref le) (.ref ss) (.int (1 : Int32)) (.int (2 : Int32)) .null (.int (1 : Int32)) (.int (0 : Int32)) (.int (0 : Int32)))) :: (sl, (IA Z .int xs)) :: (rv, (IA Z .int (List.replicate 16 0))) :: (va, (IA Z .int (a :: b :: List.replicate 14 0))) :: (le, (LA Z ((0 : Int64) :: (0 : Int64) :: List.replicate 14 0))) :: (ss, (IA Z .byte (3 :: List.replicate 15 0))) :: (il, (ShAL Z (.int (0 : Int32)) dv (.int (0 : Int32)))) :: F) (Ret none ((t, (ShTS Z (.ref sl) (.ref ix) (.ref il) (.ref rv) (.int (1 : Int32)) (.ref va) (.ref le) (.ref ss) (.int (1 : Int32)) (.int (2 : Int32)) .null (.int (0 : Int32)) (.int (2 : Int32)) (.int (1 : Int32)))) :: (sl, (IA Z .int xs)) :: (rv, (IA Z .int (List.replicate 16 0))) :: (va, (IA Z .int (a :: b :: List.replicate 14 0))) :: (le, (LA Z ((0 : Int64) :: (0 : Int64) :: List.replicate 14 0))) :: (ss, (IA Z .byte (4 :: List.replicate 15 0))) :: (il, (ShAL Z (.int (0 : Int32)) dv (.int (0 : Int32)))) :: F)) := by
  refine Sp.of (ls := #[.val (.ref t), .unset]) pn_mBC34 (fun m => by first | (simp [entryFrame, mkF, argsToLocals, Value.category]; done) | rfl) ?_
  show W _ _ _ _ _ _ 0 0 ((t, (ShTS Z (.ref sl) (.ref ix) (.ref il) (.ref rv) (.int (1 : Int32)) (.ref va) (.ref le) (.ref ss) (.int (1 : Int32)) (.int (2 : Int32)) .null (.int (1 : Int32)) (.int (0 : Int32)) (.int (0 : Int32)))) :: (sl, (IA Z .int xs)) :: (rv, (IA Z .int (List.replicate 16 0))) :: (va, (IA Z .int (a :: b :: List.replicate 14 0))) :: (le, (LA Z ((0 : Int64) :: (0 : Int64) :: List.replicate 14 0))) :: (ss, (IA Z .byte (3 :: List.replicate 15 0))) :: (il, (ShAL Z (.int (0 : Int32)) dv (.int (0 : Int32)))) :: F) 0 #[.val (.ref t), .unset] []
  refine W.iconst (0 : Int32) d17_0 (pc' := 1) rfl rfl ?_
  refine W.istoreN #[.val (.ref t), .val (.int (0 : Int32))] d17_1 (pc' := 2) rfl rfl ?_
  refine W.iloadN d17_2 (pc' := 3) rfl rfl ?_
  refine W.aloadN d17_3 (pc' := 4) rfl rfl rfl ?_
  refine W.getF 0 11 d17_4 (host := "") (Or.inl (wd hw 144 rfl)) Via.refl rfl rfl (pc' := 7) rfl ?_
  refine W.icmpN d17_7 (by decide) (pc' := 10) rfl ?_
  refine W.aloadN d17_10 (pc' := 11) rfl rfl rfl ?_
  refine W.getF 0 7 d17_11 (host := "") (Or.inl (wd hw 66 rfl)) Via.refl rfl rfl (pc' := 14) rfl ?_
  refine W.aloadN d17_14 (pc' := 15) rfl rfl rfl ?_
  refine W.getF 0 3 d17_15 (host := "") (Or.inl (wd hw 56 rfl)) Via.refl rfl rfl (pc' := 18) rfl ?_
  refine W.iloadN d17_18 (pc' := 19) rfl rfl ?_
  refine W.iaload 2 0 (x := 0) d17_19 rfl (by decide) rfl rfl (pc' := 20) rfl ?_
  refine W.iconst (4 : Int32) d17_20 (pc' := 21) rfl rfl ?_
  refine W.bastore ((t, (ShTS Z (.ref sl) (.ref ix) (.ref il) (.ref rv) (.int (1 : Int32)) (.ref va) (.ref le) (.ref ss) (.int (1 : Int32)) (.int (2 : Int32)) .null (.int (1 : Int32)) (.int (0 : Int32)) (.int (0 : Int32)))) :: (sl, (IA Z .int xs)) :: (rv, (IA Z .int (List.replicate 16 0))) :: (va, (IA Z .int (a :: b :: List.replicate 14 0))) :: (le, (LA Z ((0 : Int64) :: (0 : Int64) :: List.replicate 14 0))) :: (ss, (IA Z .byte (4 :: List.replicate 15 0))) :: (il, (ShAL Z (.int (0 : Int32)) dv (.int (0 : Int32)))) :: F) 5 0 d17_21 rfl (by decide) rfl (Nat.le_of_ble_eq_true rfl) rfl (pc' := 22) rfl ?_
  refine W.iinc #[.val (.ref t), .val (.int (1 : Int32))] (1 : Int32) (1 : Int32) d17_22 (pc' := 25) rfl rfl rfl (by decide) rfl ?_
  refine W.goto d17_25 (pc' := 2) (by decide) rfl ?_
  refine W.iloadN d17_2 (pc' := 3) rfl rfl ?_
  refine W.aloadN d17_3 (pc' := 4) rfl rfl rfl ?_
  refine W.getF 0 11 d17_4 (host := "") (Or.inl (wd hw 144 rfl)) Via.refl rfl rfl (pc' := 7) rfl ?_
  refine W.icmpY d17_7 (by decide) (by decide) (pc' := 28) rfl ?_
  refine W.aloadN d17_28 (pc' := 29) rfl rfl rfl ?_
  refine W.aloadN d17_29 (pc' := 30) rfl rfl rfl ?_
  refine W.getF 0 9 d17_30 (host := "") (Or.inl (wd hw 93 rfl)) Via.refl rfl rfl (pc' := 33) rfl ?_
  refine W.putF ((t, (ShTS Z (.ref sl) (.ref ix) (.ref il) (.ref rv) (.int (1 : Int32)) (.ref va) (.ref le) (.ref ss) (.int (1 : Int32)) (.int (2 : Int32)) .null (.int (1 : Int32)) (.int (2 : Int32)) (.int (0 : Int32)))) :: (sl, (IA Z .int xs)) :: (rv, (IA Z .int (List.replicate 16 0))) :: (va, (IA Z .int (a :: b :: List.replicate 14 0))) :: (le, (LA Z ((0 : Int64) :: (0 : Int64) :: List.replicate 14 0))) :: (ss, (IA Z .byte (4 :: List.replicate 15 0))) :: (il, (ShAL Z (.int (0 : Int32)) dv (.int (0 : Int32)))) :: F) 0 12 d17_33 (host := "") (Or.inl (wd hw 151 rfl)) Via.refl (Or.inl (wd hw 152 rfl)) (wd hw 1 rfl) (ty := .int) (by decide) rfl rfl rfl rfl rfl (pc' := 36) rfl ?_
  refine W.aloadN d17_36 (pc' := 37) rfl rfl rfl ?_
  refine W.iconst (0 : Int32) d17_37 (pc' := 38) rfl rfl ?_
  refine W.putF ((t, (ShTS Z (.ref sl) (.ref ix) (.ref il) (.ref rv) (.int (1 : Int32)) (.ref va) (.ref le) (.ref ss) (.int (1 : Int32)) (.int (2 : Int32)) .null (.int (0 : Int32)) (.int (2 : Int32)) (.int (0 : Int32)))) :: (sl, (IA Z .int xs)) :: (rv, (IA Z .int (List.replicate 16 0))) :: (va, (IA Z .int (a :: b :: List.replicate 14 0))) :: (le, (LA Z ((0 : Int64) :: (0 : Int64) :: List.replicate 14 0))) :: (ss, (IA Z .byte (4 :: List.replicate 15 0))) :: (il, (ShAL Z (.int (0 : Int32)) dv (.int (0 : Int32)))) :: F) 0 11 d17_38 (host := "") (Or.inl (wd hw 144 rfl)) Via.refl (Or.inl (wd hw 145 rfl)) (wd hw 1 rfl) (ty := .int) (by decide) rfl rfl rfl rfl rfl (pc' := 41) rfl ?_
  refine W.aloadN d17_41 (pc' := 42) rfl rfl rfl ?_
  refine W.aloadN d17_42 (pc' := 43) rfl rfl rfl ?_
  refine W.getF 0 8 d17_43 (host := "") (Or.inl (wd hw 78 rfl)) Via.refl rfl rfl (pc' := 46) rfl ?_
  refine W.putF ((t, (ShTS Z (.ref sl) (.ref ix) (.ref il) (.ref rv) (.int (1 : Int32)) (.ref va) (.ref le) (.ref ss) (.int (1 : Int32)) (.int (2 : Int32)) .null (.int (0 : Int32)) (.int (2 : Int32)) (.int (1 : Int32)))) :: (sl, (IA Z .int xs)) :: (rv, (IA Z .int (List.replicate 16 0))) :: (va, (IA Z .int (a :: b :: List.replicate 14 0))) :: (le, (LA Z ((0 : Int64) :: (0 : Int64) :: List.replicate 14 0))) :: (ss, (IA Z .byte (4 :: List.replicate 15 0))) :: (il, (ShAL Z (.int (0 : Int32)) dv (.int (0 : Int32)))) :: F) 0 13 d17_46 (host := "") (Or.inl (wd hw 153 rfl)) Via.refl (Or.inl (wd hw 154 rfl)) (wd hw 1 rfl) (ty := .int) (by decide) rfl rfl rfl rfl rfl (pc' := 49) rfl ?_
  exact W.retV d17_49 rfl (by decide) (by decide) ⟨rfl, rfl⟩
theorem pn_mG35 : plainFor (⟨"com/example/mendb/mendb/TupleStore", "state", "(I)B"⟩ : MethodName) = true := by first | (refine plainFor_of_name ?_; simp [plainName, overriddenIn]; done) | (refine plainFor_of_name ?_; decide +kernel) | decide +kernel
set_option maxRecDepth 65536 in
set_option maxHeartbeats 40000000 in
theorem mG35 (l : Launch) (Z : State) (n0 : Nat) (a0 : Array Value) (hw : ∀ d ∈ tables_1, d.before a0 Z = true) (F : Asn) (dv : Value) (hdr : dv.isRef = true) (t sl ix il rv va le ss : Addr) (a b : Int32) (xs : List Int32) : Sp l Z n0 (⟨"com/example/mendb/mendb/TupleStore", "state", "(I)B"⟩ : MethodName) prog_126_method_14_code 2 (some .byte) ({ frames := 0, cells := 0, slots := 0, locals := 0 } : Room) [(.ref t), (.int (0 : Int32))] ((t, (ShTS Z (.ref sl) (.ref ix) (.ref il) (.ref rv) (.int (1 : Int32)) (.ref va) (.ref le) (.ref ss) (.int (1 : Int32)) (.int (2 : Int32)) .null (.int (0 : Int32)) (.int (2 : Int32)) (.int (1 : Int32)))) :: (sl, (IA Z .int xs)) :: (rv, (IA Z .int (List.replicate 16 0))) :: (va, (IA Z .int (a :: b :: List.replicate 14 0))) :: (le, (LA Z ((0 : Int64) :: (0 : Int64) :: List.replicate 14 0))) :: (ss, (IA Z .byte (4 :: List.replicate 15 0))) :: (il, (ShAL Z (.int (0 : Int32)) dv (.int (0 : Int32)))) :: F) (Ret (some (.int 4)) ((t, (ShTS Z (.ref sl) (.ref ix) (.ref il) (.ref rv) (.int (1 : Int32)) (.ref va) (.ref le) (.ref ss) (.int (1 : Int32)) (.int (2 : Int32)) .null (.int (0 : Int32)) (.int (2 : Int32)) (.int (1 : Int32)))) :: (sl, (IA Z .int xs)) :: (rv, (IA Z .int (List.replicate 16 0))) :: (va, (IA Z .int (a :: b :: List.replicate 14 0))) :: (le, (LA Z ((0 : Int64) :: (0 : Int64) :: List.replicate 14 0))) :: (ss, (IA Z .byte (4 :: List.replicate 15 0))) :: (il, (ShAL Z (.int (0 : Int32)) dv (.int (0 : Int32)))) :: F)) := by
  refine Sp.of (ls := #[.val (.ref t), .val (.int (0 : Int32))]) pn_mG35 (fun m => by first | (simp [entryFrame, mkF, argsToLocals, Value.category]; done) | rfl) ?_
  show W _ _ _ _ _ _ 0 0 ((t, (ShTS Z (.ref sl) (.ref ix) (.ref il) (.ref rv) (.int (1 : Int32)) (.ref va) (.ref le) (.ref ss) (.int (1 : Int32)) (.int (2 : Int32)) .null (.int (0 : Int32)) (.int (2 : Int32)) (.int (1 : Int32)))) :: (sl, (IA Z .int xs)) :: (rv, (IA Z .int (List.replicate 16 0))) :: (va, (IA Z .int (a :: b :: List.replicate 14 0))) :: (le, (LA Z ((0 : Int64) :: (0 : Int64) :: List.replicate 14 0))) :: (ss, (IA Z .byte (4 :: List.replicate 15 0))) :: (il, (ShAL Z (.int (0 : Int32)) dv (.int (0 : Int32)))) :: F) 0 #[.val (.ref t), .val (.int (0 : Int32))] []
  refine W.aloadN d18_0 (pc' := 1) rfl rfl rfl ?_
  refine W.getF 0 7 d18_1 (host := "") (Or.inl (wd hw 66 rfl)) Via.refl rfl rfl (pc' := 4) rfl ?_
  refine W.iloadN d18_4 (pc' := 5) rfl rfl ?_
  refine W.baload 5 0 (x := 4) d18_5 rfl (by decide) rfl rfl (pc' := 6) rfl ?_
  exact W.retN (t := .byte) 4 d18_6 rfl (by simp) rfl (by decide) (by decide) ⟨rfl, rfl⟩
theorem pn_mG36 : plainFor (⟨"com/example/mendb/mendb/TupleStore", "state", "(I)B"⟩ : MethodName) = true := by first | (refine plainFor_of_name ?_; simp [plainName, overriddenIn]; done) | (refine plainFor_of_name ?_; decide +kernel) | decide +kernel
set_option maxRecDepth 65536 in
set_option maxHeartbeats 40000000 in
theorem mG36 (l : Launch) (Z : State) (n0 : Nat) (a0 : Array Value) (hw : ∀ d ∈ tables_1, d.before a0 Z = true) (F : Asn) (dv : Value) (hdr : dv.isRef = true) (t sl ix il rv va le ss : Addr) (a b : Int32) (xs : List Int32) : Sp l Z n0 (⟨"com/example/mendb/mendb/TupleStore", "state", "(I)B"⟩ : MethodName) prog_126_method_14_code 2 (some .byte) ({ frames := 0, cells := 0, slots := 0, locals := 0 } : Room) [(.ref t), (.int (1 : Int32))] ((t, (ShTS Z (.ref sl) (.ref ix) (.ref il) (.ref rv) (.int (1 : Int32)) (.ref va) (.ref le) (.ref ss) (.int (1 : Int32)) (.int (2 : Int32)) .null (.int (0 : Int32)) (.int (2 : Int32)) (.int (1 : Int32)))) :: (sl, (IA Z .int xs)) :: (rv, (IA Z .int (List.replicate 16 0))) :: (va, (IA Z .int (a :: b :: List.replicate 14 0))) :: (le, (LA Z ((0 : Int64) :: (0 : Int64) :: List.replicate 14 0))) :: (ss, (IA Z .byte (4 :: List.replicate 15 0))) :: (il, (ShAL Z (.int (0 : Int32)) dv (.int (0 : Int32)))) :: F) (Ret (some (.int 0)) ((t, (ShTS Z (.ref sl) (.ref ix) (.ref il) (.ref rv) (.int (1 : Int32)) (.ref va) (.ref le) (.ref ss) (.int (1 : Int32)) (.int (2 : Int32)) .null (.int (0 : Int32)) (.int (2 : Int32)) (.int (1 : Int32)))) :: (sl, (IA Z .int xs)) :: (rv, (IA Z .int (List.replicate 16 0))) :: (va, (IA Z .int (a :: b :: List.replicate 14 0))) :: (le, (LA Z ((0 : Int64) :: (0 : Int64) :: List.replicate 14 0))) :: (ss, (IA Z .byte (4 :: List.replicate 15 0))) :: (il, (ShAL Z (.int (0 : Int32)) dv (.int (0 : Int32)))) :: F)) := by
  refine Sp.of (ls := #[.val (.ref t), .val (.int (1 : Int32))]) pn_mG36 (fun m => by first | (simp [entryFrame, mkF, argsToLocals, Value.category]; done) | rfl) ?_
  show W _ _ _ _ _ _ 0 0 ((t, (ShTS Z (.ref sl) (.ref ix) (.ref il) (.ref rv) (.int (1 : Int32)) (.ref va) (.ref le) (.ref ss) (.int (1 : Int32)) (.int (2 : Int32)) .null (.int (0 : Int32)) (.int (2 : Int32)) (.int (1 : Int32)))) :: (sl, (IA Z .int xs)) :: (rv, (IA Z .int (List.replicate 16 0))) :: (va, (IA Z .int (a :: b :: List.replicate 14 0))) :: (le, (LA Z ((0 : Int64) :: (0 : Int64) :: List.replicate 14 0))) :: (ss, (IA Z .byte (4 :: List.replicate 15 0))) :: (il, (ShAL Z (.int (0 : Int32)) dv (.int (0 : Int32)))) :: F) 0 #[.val (.ref t), .val (.int (1 : Int32))] []
  refine W.aloadN d18_0 (pc' := 1) rfl rfl rfl ?_
  refine W.getF 0 7 d18_1 (host := "") (Or.inl (wd hw 66 rfl)) Via.refl rfl rfl (pc' := 4) rfl ?_
  refine W.iloadN d18_4 (pc' := 5) rfl rfl ?_
  refine W.baload 5 1 (x := 0) d18_5 rfl (by decide) rfl rfl (pc' := 6) rfl ?_
  exact W.retN (t := .byte) 0 d18_6 rfl (by simp) rfl (by decide) (by decide) ⟨rfl, rfl⟩
theorem pn_mG37 : plainFor (⟨"com/example/mendb/mendb/TupleStore", "firstAdded", "()I"⟩ : MethodName) = true := by first | (refine plainFor_of_name ?_; simp [plainName, overriddenIn]; done) | (refine plainFor_of_name ?_; decide +kernel) | decide +kernel
set_option maxRecDepth 65536 in
set_option maxHeartbeats 40000000 in
theorem mG37 (l : Launch) (Z : State) (n0 : Nat) (a0 : Array Value) (hw : ∀ d ∈ tables_1, d.before a0 Z = true) (F : Asn) (dv : Value) (hdr : dv.isRef = true) (t sl ix il rv va le ss : Addr) (a b : Int32) (xs : List Int32) : Sp l Z n0 (⟨"com/example/mendb/mendb/TupleStore", "firstAdded", "()I"⟩ : MethodName) prog_126_method_27_code 1 (some .int) ({ frames := 0, cells := 0, slots := 0, locals := 0 } : Room) [(.ref t)] ((t, (ShTS Z (.ref sl) (.ref ix) (.ref il) (.ref rv) (.int (1 : Int32)) (.ref va) (.ref le) (.ref ss) (.int (1 : Int32)) (.int (2 : Int32)) .null (.int (0 : Int32)) (.int (2 : Int32)) (.int (1 : Int32)))) :: (sl, (IA Z .int xs)) :: (rv, (IA Z .int (List.replicate 16 0))) :: (va, (IA Z .int (a :: b :: List.replicate 14 0))) :: (le, (LA Z ((0 : Int64) :: (0 : Int64) :: List.replicate 14 0))) :: (ss, (IA Z .byte (4 :: List.replicate 15 0))) :: (il, (ShAL Z (.int (0 : Int32)) dv (.int (0 : Int32)))) :: F) (Ret (some (.int 2)) ((t, (ShTS Z (.ref sl) (.ref ix) (.ref il) (.ref rv) (.int (1 : Int32)) (.ref va) (.ref le) (.ref ss) (.int (1 : Int32)) (.int (2 : Int32)) .null (.int (0 : Int32)) (.int (2 : Int32)) (.int (1 : Int32)))) :: (sl, (IA Z .int xs)) :: (rv, (IA Z .int (List.replicate 16 0))) :: (va, (IA Z .int (a :: b :: List.replicate 14 0))) :: (le, (LA Z ((0 : Int64) :: (0 : Int64) :: List.replicate 14 0))) :: (ss, (IA Z .byte (4 :: List.replicate 15 0))) :: (il, (ShAL Z (.int (0 : Int32)) dv (.int (0 : Int32)))) :: F)) := by
  refine Sp.of (ls := #[.val (.ref t)]) pn_mG37 (fun m => by first | (simp [entryFrame, mkF, argsToLocals, Value.category]; done) | rfl) ?_
  show W _ _ _ _ _ _ 0 0 ((t, (ShTS Z (.ref sl) (.ref ix) (.ref il) (.ref rv) (.int (1 : Int32)) (.ref va) (.ref le) (.ref ss) (.int (1 : Int32)) (.int (2 : Int32)) .null (.int (0 : Int32)) (.int (2 : Int32)) (.int (1 : Int32)))) :: (sl, (IA Z .int xs)) :: (rv, (IA Z .int (List.replicate 16 0))) :: (va, (IA Z .int (a :: b :: List.replicate 14 0))) :: (le, (LA Z ((0 : Int64) :: (0 : Int64) :: List.replicate 14 0))) :: (ss, (IA Z .byte (4 :: List.replicate 15 0))) :: (il, (ShAL Z (.int (0 : Int32)) dv (.int (0 : Int32)))) :: F) 0 #[.val (.ref t)] []
  refine W.aloadN d19_0 (pc' := 1) rfl rfl rfl ?_
  refine W.getF 0 12 d19_1 (host := "") (Or.inl (wd hw 151 rfl)) Via.refl rfl rfl (pc' := 4) rfl ?_
  exact W.retI d19_4 rfl (by decide) (by decide) ⟨rfl, rfl⟩
theorem pn_mG38 : plainFor (⟨"com/example/mendb/mendb/TupleStore", "removedCount", "()I"⟩ : MethodName) = true := by first | (refine plainFor_of_name ?_; simp [plainName, overriddenIn]; done) | (refine plainFor_of_name ?_; decide +kernel) | decide +kernel
set_option maxRecDepth 65536 in
set_option maxHeartbeats 40000000 in
theorem mG38 (l : Launch) (Z : State) (n0 : Nat) (a0 : Array Value) (hw : ∀ d ∈ tables_1, d.before a0 Z = true) (F : Asn) (dv : Value) (hdr : dv.isRef = true) (t sl ix il rv va le ss : Addr) (a b : Int32) (xs : List Int32) : Sp l Z n0 (⟨"com/example/mendb/mendb/TupleStore", "removedCount", "()I"⟩ : MethodName) prog_126_method_28_code 1 (some .int) ({ frames := 0, cells := 0, slots := 0, locals := 0 } : Room) [(.ref t)] ((t, (ShTS Z (.ref sl) (.ref ix) (.ref il) (.ref rv) (.int (1 : Int32)) (.ref va) (.ref le) (.ref ss) (.int (1 : Int32)) (.int (2 : Int32)) .null (.int (0 : Int32)) (.int (2 : Int32)) (.int (1 : Int32)))) :: (sl, (IA Z .int xs)) :: (rv, (IA Z .int (List.replicate 16 0))) :: (va, (IA Z .int (a :: b :: List.replicate 14 0))) :: (le, (LA Z ((0 : Int64) :: (0 : Int64) :: List.replicate 14 0))) :: (ss, (IA Z .byte (4 :: List.replicate 15 0))) :: (il, (ShAL Z (.int (0 : Int32)) dv (.int (0 : Int32)))) :: F) (Ret (some (.int 0)) ((t, (ShTS Z (.ref sl) (.ref ix) (.ref il) (.ref rv) (.int (1 : Int32)) (.ref va) (.ref le) (.ref ss) (.int (1 : Int32)) (.int (2 : Int32)) .null (.int (0 : Int32)) (.int (2 : Int32)) (.int (1 : Int32)))) :: (sl, (IA Z .int xs)) :: (rv, (IA Z .int (List.replicate 16 0))) :: (va, (IA Z .int (a :: b :: List.replicate 14 0))) :: (le, (LA Z ((0 : Int64) :: (0 : Int64) :: List.replicate 14 0))) :: (ss, (IA Z .byte (4 :: List.replicate 15 0))) :: (il, (ShAL Z (.int (0 : Int32)) dv (.int (0 : Int32)))) :: F)) := by
  refine Sp.of (ls := #[.val (.ref t)]) pn_mG38 (fun m => by first | (simp [entryFrame, mkF, argsToLocals, Value.category]; done) | rfl) ?_
  show W _ _ _ _ _ _ 0 0 ((t, (ShTS Z (.ref sl) (.ref ix) (.ref il) (.ref rv) (.int (1 : Int32)) (.ref va) (.ref le) (.ref ss) (.int (1 : Int32)) (.int (2 : Int32)) .null (.int (0 : Int32)) (.int (2 : Int32)) (.int (1 : Int32)))) :: (sl, (IA Z .int xs)) :: (rv, (IA Z .int (List.replicate 16 0))) :: (va, (IA Z .int (a :: b :: List.replicate 14 0))) :: (le, (LA Z ((0 : Int64) :: (0 : Int64) :: List.replicate 14 0))) :: (ss, (IA Z .byte (4 :: List.replicate 15 0))) :: (il, (ShAL Z (.int (0 : Int32)) dv (.int (0 : Int32)))) :: F) 0 #[.val (.ref t)] []
  refine W.aloadN d20_0 (pc' := 1) rfl rfl rfl ?_
  refine W.getF 0 11 d20_1 (host := "") (Or.inl (wd hw 144 rfl)) Via.refl rfl rfl (pc' := 4) rfl ?_
  exact W.retI d20_4 rfl (by decide) (by decide) ⟨rfl, rfl⟩
theorem pn_mG39 : plainFor (⟨"com/example/mendb/mendb/TupleStore", "countAtStart", "()I"⟩ : MethodName) = true := by first | (refine plainFor_of_name ?_; simp [plainName, overriddenIn]; done) | (refine plainFor_of_name ?_; decide +kernel) | decide +kernel
set_option maxRecDepth 65536 in
set_option maxHeartbeats 40000000 in
theorem mG39 (l : Launch) (Z : State) (n0 : Nat) (a0 : Array Value) (hw : ∀ d ∈ tables_1, d.before a0 Z = true) (F : Asn) (dv : Value) (hdr : dv.isRef = true) (t sl ix il rv va le ss : Addr) (a b : Int32) (xs : List Int32) : Sp l Z n0 (⟨"com/example/mendb/mendb/TupleStore", "countAtStart", "()I"⟩ : MethodName) prog_126_method_18_code 1 (some .int) ({ frames := 0, cells := 0, slots := 0, locals := 0 } : Room) [(.ref t)] ((t, (ShTS Z (.ref sl) (.ref ix) (.ref il) (.ref rv) (.int (1 : Int32)) (.ref va) (.ref le) (.ref ss) (.int (1 : Int32)) (.int (2 : Int32)) .null (.int (0 : Int32)) (.int (2 : Int32)) (.int (1 : Int32)))) :: (sl, (IA Z .int xs)) :: (rv, (IA Z .int (List.replicate 16 0))) :: (va, (IA Z .int (a :: b :: List.replicate 14 0))) :: (le, (LA Z ((0 : Int64) :: (0 : Int64) :: List.replicate 14 0))) :: (ss, (IA Z .byte (4 :: List.replicate 15 0))) :: (il, (ShAL Z (.int (0 : Int32)) dv (.int (0 : Int32)))) :: F) (Ret (some (.int 1)) ((t, (ShTS Z (.ref sl) (.ref ix) (.ref il) (.ref rv) (.int (1 : Int32)) (.ref va) (.ref le) (.ref ss) (.int (1 : Int32)) (.int (2 : Int32)) .null (.int (0 : Int32)) (.int (2 : Int32)) (.int (1 : Int32)))) :: (sl, (IA Z .int xs)) :: (rv, (IA Z .int (List.replicate 16 0))) :: (va, (IA Z .int (a :: b :: List.replicate 14 0))) :: (le, (LA Z ((0 : Int64) :: (0 : Int64) :: List.replicate 14 0))) :: (ss, (IA Z .byte (4 :: List.replicate 15 0))) :: (il, (ShAL Z (.int (0 : Int32)) dv (.int (0 : Int32)))) :: F)) := by
  refine Sp.of (ls := #[.val (.ref t)]) pn_mG39 (fun m => by first | (simp [entryFrame, mkF, argsToLocals, Value.category]; done) | rfl) ?_
  show W _ _ _ _ _ _ 0 0 ((t, (ShTS Z (.ref sl) (.ref ix) (.ref il) (.ref rv) (.int (1 : Int32)) (.ref va) (.ref le) (.ref ss) (.int (1 : Int32)) (.int (2 : Int32)) .null (.int (0 : Int32)) (.int (2 : Int32)) (.int (1 : Int32)))) :: (sl, (IA Z .int xs)) :: (rv, (IA Z .int (List.replicate 16 0))) :: (va, (IA Z .int (a :: b :: List.replicate 14 0))) :: (le, (LA Z ((0 : Int64) :: (0 : Int64) :: List.replicate 14 0))) :: (ss, (IA Z .byte (4 :: List.replicate 15 0))) :: (il, (ShAL Z (.int (0 : Int32)) dv (.int (0 : Int32)))) :: F) 0 #[.val (.ref t)] []
  refine W.aloadN d21_0 (pc' := 1) rfl rfl rfl ?_
  refine W.getF 0 13 d21_1 (host := "") (Or.inl (wd hw 153 rfl)) Via.refl rfl rfl (pc' := 4) rfl ?_
  exact W.retI d21_4 rfl (by decide) (by decide) ⟨rfl, rfl⟩
theorem pn_mBC40 : plainFor (⟨"com/example/mendb/mendb/TupleStore", "beginCommit", "()V"⟩ : MethodName) = true := by first | (refine plainFor_of_name ?_; simp [plainName, overriddenIn]; done) | (refine plainFor_of_name ?_; decide +kernel) | decide +kernel
set_option maxRecDepth 65536 in
set_option maxHeartbeats 40000000 in
theorem mBC40 (l : Launch) (Z : State) (n0 : Nat) (a0 : Array Value) (hw : ∀ d ∈ tables_1, d.before a0 Z = true) (F : Asn) (dv : Value) (hdr : dv.isRef = true) (t sl ix il rv va le ss : Addr) (a b : Int32) (xs : List Int32) : Sp l Z n0 (⟨"com/example/mendb/mendb/TupleStore", "beginCommit", "()V"⟩ : MethodName) prog_126_method_26_code 2 none ({ frames := 0, cells := 0, slots := 0, locals := 0 } : Room) [(.ref t)] ((t, (ShTS Z (.ref sl) (.ref ix) (.ref il) (.ref rv) (.int (1 : Int32)) (.ref va) (.ref le) (.ref ss) (.int (1 : Int32)) (.int (2 : Int32)) .null (.int (0 : Int32)) (.int (2 : Int32)) (.int (1 : Int32)))) :: (sl, (IA Z .int xs)) :: (rv, (IA Z .int (List.replicate 16 0))) :: (va, (IA Z .int (a :: b :: List.replicate 14 0))) :: (le, (LA Z ((0 : Int64) :: (0 : Int64) :: List.replicate 14 0))) :: (ss, (IA Z .byte (4 :: List.replicate 15 0))) :: (il, (ShAL Z (.int (0 : Int32)) dv (.int (0 : Int32)))) :: F) (Ret none ((t, (ShTS Z (.ref sl) (.ref ix) (.ref il) (.ref rv) (.int (1 : Int32)) (.ref va) (.ref le) (.ref ss) (.int (1 : Int32)) (.int (2 : Int32)) .null (.int (0 : Int32)) (.int (2 : Int32)) (.int (1 : Int32)))) :: (sl, (IA Z .int xs)) :: (rv, (IA Z .int (List.replicate 16 0))) :: (va, (IA Z .int (a :: b :: List.replicate 14 0))) :: (le, (LA Z ((0 : Int64) :: (0 : Int64) :: List.replicate 14 0))) :: (ss, (IA Z .byte (4 :: List.replicate 15 0))) :: (il, (ShAL Z (.int (0 : Int32)) dv (.int (0 : Int32)))) :: F)) := by
  refine Sp.of (ls := #[.val (.ref t), .unset]) pn_mBC40 (fun m => by first | (simp [entryFrame, mkF, argsToLocals, Value.category]; done) | rfl) ?_
  show W _ _ _ _ _ _ 0 0 ((t, (ShTS Z (.ref sl) (.ref ix) (.ref il) (.ref rv) (.int (1 : Int32)) (.ref va) (.ref le) (.ref ss) (.int (1 : Int32)) (.int (2 : Int32)) .null (.int (0 : Int32)) (.int (2 : Int32)) (.int (1 : Int32)))) :: (sl, (IA Z .int xs)) :: (rv, (IA Z .int (List.replicate 16 0))) :: (va, (IA Z .int (a :: b :: List.replicate 14 0))) :: (le, (LA Z ((0 : Int64) :: (0 : Int64) :: List.replicate 14 0))) :: (ss, (IA Z .byte (4 :: List.replicate 15 0))) :: (il, (ShAL Z (.int (0 : Int32)) dv (.int (0 : Int32)))) :: F) 0 #[.val (.ref t), .unset] []
  refine W.iconst (0 : Int32) d17_0 (pc' := 1) rfl rfl ?_
  refine W.istoreN #[.val (.ref t), .val (.int (0 : Int32))] d17_1 (pc' := 2) rfl rfl ?_
  refine W.iloadN d17_2 (pc' := 3) rfl rfl ?_
  refine W.aloadN d17_3 (pc' := 4) rfl rfl rfl ?_
  refine W.getF 0 11 d17_4 (host := "") (Or.inl (wd hw 144 rfl)) Via.refl rfl rfl (pc' := 7) rfl ?_
  refine W.icmpY d17_7 (by decide) (by decide) (pc' := 28) rfl ?_
  refine W.aloadN d17_28 (pc' := 29) rfl rfl rfl ?_
  refine W.aloadN d17_29 (pc' := 30) rfl rfl rfl ?_
  refine W.getF 0 9 d17_30 (host := "") (Or.inl (wd hw 93 rfl)) Via.refl rfl rfl (pc' := 33) rfl ?_
  refine W.putF ((t, (ShTS Z (.ref sl) (.ref ix) (.ref il) (.ref rv) (.int (1 : Int32)) (.ref va) (.ref le) (.ref ss) (.int (1 : Int32)) (.int (2 : Int32)) .null (.int (0 : Int32)) (.int (2 : Int32)) (.int (1 : Int32)))) :: (sl, (IA Z .int xs)) :: (rv, (IA Z .int (List.replicate 16 0))) :: (va, (IA Z .int (a :: b :: List.replicate 14 0))) :: (le, (LA Z ((0 : Int64) :: (0 : Int64) :: List.replicate 14 0))) :: (ss, (IA Z .byte (4 :: List.replicate 15 0))) :: (il, (ShAL Z (.int (0 : Int32)) dv (.int (0 : Int32)))) :: F) 0 12 d17_33 (host := "") (Or.inl (wd hw 151 rfl)) Via.refl (Or.inl (wd hw 152 rfl)) (wd hw 1 rfl) (ty := .int) (by decide) rfl rfl rfl rfl rfl (pc' := 36) rfl ?_
  refine W.aloadN d17_36 (pc' := 37) rfl rfl rfl ?_
  refine W.iconst (0 : Int32) d17_37 (pc' := 38) rfl rfl ?_
  refine W.putF ((t, (ShTS Z (.ref sl) (.ref ix) (.ref il) (.ref rv) (.int (1 : Int32)) (.ref va) (.ref le) (.ref ss) (.int (1 : Int32)) (.int (2 : Int32)) .null (.int (0 : Int32)) (.int (2 : Int32)) (.int (1 : Int32)))) :: (sl, (IA Z .int xs)) :: (rv, (IA Z .int (List.replicate 16 0))) :: (va, (IA Z .int (a :: b :: List.replicate 14 0))) :: (le, (LA Z ((0 : Int64) :: (0 : Int64) :: List.replicate 14 0))) :: (ss, (IA Z .byte (4 :: List.replicate 15 0))) :: (il, (ShAL Z (.int (0 : Int32)) dv (.int (0 : Int32)))) :: F) 0 11 d17_38 (host := "") (Or.inl (wd hw 144 rfl)) Via.refl (Or.inl (wd hw 145 rfl)) (wd hw 1 rfl) (ty := .int) (by decide) rfl rfl rfl rfl rfl (pc' := 41) rfl ?_
  refine W.aloadN d17_41 (pc' := 42) rfl rfl rfl ?_
  refine W.aloadN d17_42 (pc' := 43) rfl rfl rfl ?_
  refine W.getF 0 8 d17_43 (host := "") (Or.inl (wd hw 78 rfl)) Via.refl rfl rfl (pc' := 46) rfl ?_
  refine W.putF ((t, (ShTS Z (.ref sl) (.ref ix) (.ref il) (.ref rv) (.int (1 : Int32)) (.ref va) (.ref le) (.ref ss) (.int (1 : Int32)) (.int (2 : Int32)) .null (.int (0 : Int32)) (.int (2 : Int32)) (.int (1 : Int32)))) :: (sl, (IA Z .int xs)) :: (rv, (IA Z .int (List.replicate 16 0))) :: (va, (IA Z .int (a :: b :: List.replicate 14 0))) :: (le, (LA Z ((0 : Int64) :: (0 : Int64) :: List.replicate 14 0))) :: (ss, (IA Z .byte (4 :: List.replicate 15 0))) :: (il, (ShAL Z (.int (0 : Int32)) dv (.int (0 : Int32)))) :: F) 0 13 d17_46 (host := "") (Or.inl (wd hw 153 rfl)) Via.refl (Or.inl (wd hw 154 rfl)) (wd hw 1 rfl) (ty := .int) (by decide) rfl rfl rfl rfl rfl (pc' := 49) rfl ?_
  exact W.retV d17_49 rfl (by decide) (by decide) ⟨rfl, rfl⟩
set_option maxRecDepth 65536 in
set_option maxHeartbeats 40000000 in
theorem remT41 (l : Launch) (Z : State) (n0 : Nat) (a0 : Array Value) (hw : ∀ d ∈ tables_1, d.before a0 Z = true) (F : Asn) (dv : Value) (hdr : dv.isRef = true) (t sl ix il rv va le ss : Addr) (a b : Int32) (xs : List Int32) (K : List Int32 → Prop) (p : Nat) (i3 i5 : Int32) (s6 : Slot) (hlx : xs.length = 32) (hp : p < 32) (hK : K (xs.set p 0)) : W l Z n0 ("com/example/mendb/mendb/TupleStore", "remove", prog_126_method_25_code, 7, none) ({ frames := 2, cells := 0, slots := 0, locals := 40 } : Room) (fun v σ' => v = none ∧ ∃ xs' : List Int32, xs'.length = 32 ∧ K xs' ∧ σ' = ((t, (ShTS Z (.ref sl) (.ref ix) (.ref il) (.ref rv) (.int (1 : Int32)) (.ref va) (.ref le) (.ref ss) (.int (0 : Int32)) (.int (2 : Int32)) .null (.int (2 : Int32)) (.int (0 : Int32)) (.int (0 : Int32)))) :: (sl, (IA Z .int xs')) :: (rv, (IA Z .int (0 :: 1 :: List.replicate 14 0))) :: (va, (IA Z .int (a :: b :: List.replicate 14 0))) :: (le, (LA Z ((0 : Int64) :: (0 : Int64) :: List.replicate 14 0))) :: (ss, (IA Z .byte (3 :: 3 :: List.replicate 14 0))) :: (il, (ShAL Z (.int (0 : Int32)) dv (.int (0 : Int32)))) :: F)) 0 0 ((t, (ShTS Z (.ref sl) (.ref ix) (.ref il) (.ref rv) (.int (1 : Int32)) (.ref va) (.ref le) (.ref ss) (.int (1 : Int32)) (.int (2 : Int32)) .null (.int (1 : Int32)) (.int (0 : Int32)) (.int (0 : Int32)))) :: (sl, (IA Z .int xs)) :: (rv, (IA Z .int (List.replicate 16 0))) :: (va, (IA Z .int (a :: b :: List.replicate 14 0))) :: (le, (LA Z ((0 : Int64) :: (0 : Int64) :: List.replicate 14 0))) :: (ss, (IA Z .byte (3 :: List.replicate 15 0))) :: (il, (ShAL Z (.int (0 : Int32)) dv (.int (0 : Int32)))) :: F) 139 #[.val (.ref t), .val (.int (1 : Int32)), .val (.int (31 : Int32)), .val (.int i3), .val (.int (Int32.ofNat p)), .val (.int i5), s6] [] := by
  refine W.aloadN d16_139 (pc' := 140) rfl rfl rfl ?_
  refine W.getF 0 0 d16_140 (host := "") (Or.inl (wd hw 10 rfl)) Via.refl rfl rfl (pc' := 143) rfl ?_
  refine W.iload d16_143 (pc' := 145) rfl rfl ?_
  refine W.iconst (0 : Int32) d16_145 (pc' := 146) rfl rfl ?_
  refine W.iastore ((t, (ShTS Z (.ref sl) (.ref ix) (.ref il) (.ref rv) (.int (1 : Int32)) (.ref va) (.ref le) (.ref ss) (.int (1 : Int32)) (.int (2 : Int32)) .null (.int (1 : Int32)) (.int (0 : Int32)) (.int (0 : Int32)))) :: (sl, (IA Z .int (xs.set p 0))) :: (rv, (IA Z .int (List.replicate 16 0))) :: (va, (IA Z .int (a :: b :: List.replicate 14 0))) :: (le, (LA Z ((0 : Int64) :: (0 : Int64) :: List.replicate 14 0))) :: (ss, (IA Z .byte (3 :: List.replicate 15 0))) :: (il, (ShAL Z (.int (0 : Int32)) dv (.int (0 : Int32)))) :: F) 1 p d16_146 rfl (own_nn hp) (own_tn hp) (by rw [hlx]; exact hp) rfl (pc' := 147) rfl ?_
  refine W.aloadN d16_147 (pc' := 148) rfl rfl rfl ?_
  refine W.getF 0 7 d16_148 (host := "") (Or.inl (wd hw 66 rfl)) Via.refl rfl rfl (pc' := 151) rfl ?_
  refine W.iloadN d16_151 (pc' := 152) rfl rfl ?_
  refine W.iconst (3 : Int32) d16_152 (pc' := 153) rfl rfl ?_
  refine W.bastore ((t, (ShTS Z (.ref sl) (.ref ix) (.ref il) (.ref rv) (.int (1 : Int32)) (.ref va) (.ref le) (.ref ss) (.int (1 : Int32)) (.int (2 : Int32)) .null (.int (1 : Int32)) (.int (0 : Int32)) (.int (0 : Int32)))) :: (sl, (IA Z .int (xs.set p 0))) :: (rv, (IA Z .int (List.replicate 16 0))) :: (va, (IA Z .int (a :: b :: List.replicate 14 0))) :: (le, (LA Z ((0 : Int64) :: (0 : Int64) :: List.replicate 14 0))) :: (ss, (IA Z .byte (3 :: 3 :: List.replicate 14 0))) :: (il, (ShAL Z (.int (0 : Int32)) dv (.int (0 : Int32)))) :: F) 5 1 d16_153 rfl (by decide) rfl (Nat.le_of_ble_eq_true rfl) rfl (pc' := 154) rfl ?_
  refine W.aloadN d16_154 (pc' := 155) rfl rfl rfl ?_
  refine W.dup d16_155 (pc' := 156) rfl rfl ?_
  refine W.getF 0 8 d16_156 (host := "") (Or.inl (wd hw 78 rfl)) Via.refl rfl rfl (pc' := 159) rfl ?_
  refine W.iconst (1 : Int32) d16_159 (pc' := 160) rfl rfl ?_
  refine W.isub d16_160 (pc' := 161) rfl ?_
  refine W.topI (0 : Int32) (by decide) ?_
  refine W.putF ((t, (ShTS Z (.ref sl) (.ref ix) (.ref il) (.ref rv) (.int (1 : Int32)) (.ref va) (.ref le) (.ref ss) (.int (0 : Int32)) (.int (2 : Int32)) .null (.int (1 : Int32)) (.int (0 : Int32)) (.int (0 : Int32)))) :: (sl, (IA Z .int (xs.set p 0))) :: (rv, (IA Z .int (List.replicate 16 0))) :: (va, (IA Z .int (a :: b :: List.replicate 14 0))) :: (le, (LA Z ((0 : Int64) :: (0 : Int64) :: List.replicate 14 0))) :: (ss, (IA Z .byte (3 :: 3 :: List.replicate 14 0))) :: (il, (ShAL Z (.int (0 : Int32)) dv (.int (0 : Int32)))) :: F) 0 8 d16_161 (host := "") (Or.inl (wd hw 78 rfl)) Via.refl (Or.inl (wd hw 79 rfl)) (wd hw 1 rfl) (ty := .int) (by decide) rfl rfl rfl rfl rfl (pc' := 164) rfl ?_
  refine W.aloadN d16_164 (pc' := 165) rfl rfl rfl ?_
  refine W.getF 0 11 d16_165 (host := "") (Or.inl (wd hw 144 rfl)) Via.refl rfl rfl (pc' := 168) rfl ?_
  refine W.aloadN d16_168 (pc' := 169) rfl rfl rfl ?_
  refine W.getF 0 3 d16_169 (host := "") (Or.inl (wd hw 56 rfl)) Via.refl rfl rfl (pc' := 172) rfl ?_
  refine W.len 2 (16 : Int32) d16_172 rfl rfl (pc' := 173) rfl ?_
  refine W.icmpY d16_173 (by decide) (by decide) (pc' := 193) rfl ?_
  refine W.aloadN d16_193 (pc' := 194) rfl rfl rfl ?_
  refine W.getF 0 3 d16_194 (host := "") (Or.inl (wd hw 56 rfl)) Via.refl rfl rfl (pc' := 197) rfl ?_
  refine W.aloadN d16_197 (pc' := 198) rfl rfl rfl ?_
  refine W.getF 0 11 d16_198 (host := "") (Or.inl (wd hw 144 rfl)) Via.refl rfl rfl (pc' := 201) rfl ?_
  refine W.iloadN d16_201 (pc' := 202) rfl rfl ?_
  refine W.iastore ((t, (ShTS Z (.ref sl) (.ref ix) (.ref il) (.ref rv) (.int (1 : Int32)) (.ref va) (.ref le) (.ref ss) (.int (0 : Int32)) (.int (2 : Int32)) .null (.int (1 : Int32)) (.int (0 : Int32)) (.int (0 : Int32)))) :: (sl, (IA Z .int (xs.set p 0))) :: (rv, (IA Z .int (0 :: 1 :: List.replicate 14 0))) :: (va, (IA Z .int (a :: b :: List.replicate 14 0))) :: (le, (LA Z ((0 : Int64) :: (0 : Int64) :: List.replicate 14 0))) :: (ss, (IA Z .byte (3 :: 3 :: List.replicate 14 0))) :: (il, (ShAL Z (.int (0 : Int32)) dv (.int (0 : Int32)))) :: F) 2 1 d16_202 rfl (by decide) rfl (Nat.le_of_ble_eq_true rfl) rfl (pc' := 203) rfl ?_
  refine W.aloadN d16_203 (pc' := 204) rfl rfl rfl ?_
  refine W.dup d16_204 (pc' := 205) rfl rfl ?_
  refine W.getF 0 11 d16_205 (host := "") (Or.inl (wd hw 144 rfl)) Via.refl rfl rfl (pc' := 208) rfl ?_
  refine W.iconst (1 : Int32) d16_208 (pc' := 209) rfl rfl ?_
  refine W.iadd d16_209 (pc' := 210) rfl ?_
  refine W.topI (2 : Int32) (by decide) ?_
  refine W.putF ((t, (ShTS Z (.ref sl) (.ref ix) (.ref il) (.ref rv) (.int (1 : Int32)) (.ref va) (.ref le) (.ref ss) (.int (0 : Int32)) (.int (2 : Int32)) .null (.int (2 : Int32)) (.int (0 : Int32)) (.int (0 : Int32)))) :: (sl, (IA Z .int (xs.set p 0))) :: (rv, (IA Z .int (0 :: 1 :: List.replicate 14 0))) :: (va, (IA Z .int (a :: b :: List.replicate 14 0))) :: (le, (LA Z ((0 : Int64) :: (0 : Int64) :: List.replicate 14 0))) :: (ss, (IA Z .byte (3 :: 3 :: List.replicate 14 0))) :: (il, (ShAL Z (.int (0 : Int32)) dv (.int (0 : Int32)))) :: F) 0 11 d16_210 (host := "") (Or.inl (wd hw 144 rfl)) Via.refl (Or.inl (wd hw 145 rfl)) (wd hw 1 rfl) (ty := .int) (by decide) rfl rfl rfl rfl rfl (pc' := 213) rfl ?_
  exact W.retV d16_213 rfl (by decide) (by decide) ⟨rfl, _, by rw [List.length_set]; exact hlx, hK, rfl⟩
theorem pn_mRem42 : plainFor (⟨"com/example/mendb/mendb/TupleStore", "remove", "(I)V"⟩ : MethodName) = true := by first | (refine plainFor_of_name ?_; simp [plainName, overriddenIn]; done) | (refine plainFor_of_name ?_; decide +kernel) | decide +kernel
set_option maxRecDepth 65536 in
set_option maxHeartbeats 40000000 in
theorem mRem42 (l : Launch) (Z : State) (n0 : Nat) (a0 : Array Value) (hw : ∀ d ∈ tables_1, d.before a0 Z = true) (F : Asn) (dv : Value) (hdr : dv.isRef = true) (t sl ix il rv va le ss : Addr) (a b : Int32) (xs : List Int32) (hlx : xs.length = 32) (h2 : xs[own_s b]? = some 2) (h3 : xs[(own_s b + 1) % 32]? = some 0) : Sp l Z n0 (⟨"com/example/mendb/mendb/TupleStore", "remove", "(I)V"⟩ : MethodName) prog_126_method_25_code 7 none ({ frames := 2, cells := 0, slots := 0, locals := 40 } : Room) [(.ref t), (.int (1 : Int32))] ((t, (ShTS Z (.ref sl) (.ref ix) (.ref il) (.ref rv) (.int (1 : Int32)) (.ref va) (.ref le) (.ref ss) (.int (1 : Int32)) (.int (2 : Int32)) .null (.int (1 : Int32)) (.int (0 : Int32)) (.int (0 : Int32)))) :: (sl, (IA Z .int xs)) :: (rv, (IA Z .int (List.replicate 16 0))) :: (va, (IA Z .int (a :: b :: List.replicate 14 0))) :: (le, (LA Z ((0 : Int64) :: (0 : Int64) :: List.replicate 14 0))) :: (ss, (IA Z .byte (3 :: List.replicate 15 0))) :: (il, (ShAL Z (.int (0 : Int32)) dv (.int (0 : Int32)))) :: F) (fun v σ' => v = none ∧ ∃ xs' : List Int32, xs'.length = 32 ∧ (fun _ => True) xs' ∧ σ' = ((t, (ShTS Z (.ref sl) (.ref ix) (.ref il) (.ref rv) (.int (1 : Int32)) (.ref va) (.ref le) (.ref ss) (.int (0 : Int32)) (.int (2 : Int32)) .null (.int (2 : Int32)) (.int (0 : Int32)) (.int (0 : Int32)))) :: (sl, (IA Z .int xs')) :: (rv, (IA Z .int (0 :: 1 :: List.replicate 14 0))) :: (va, (IA Z .int (a :: b :: List.replicate 14 0))) :: (le, (LA Z ((0 : Int64) :: (0 : Int64) :: List.replicate 14 0))) :: (ss, (IA Z .byte (3 :: 3 :: List.replicate 14 0))) :: (il, (ShAL Z (.int (0 : Int32)) dv (.int (0 : Int32)))) :: F)) := by
  refine Sp.of (ls := #[.val (.ref t), .val (.int (1 : Int32)), .unset, .unset, .unset, .unset, .unset]) pn_mRem42 (fun m => by first | (simp [entryFrame, mkF, argsToLocals, Value.category]; done) | rfl) ?_
  show W _ _ _ _ _ _ 0 0 ((t, (ShTS Z (.ref sl) (.ref ix) (.ref il) (.ref rv) (.int (1 : Int32)) (.ref va) (.ref le) (.ref ss) (.int (1 : Int32)) (.int (2 : Int32)) .null (.int (1 : Int32)) (.int (0 : Int32)) (.int (0 : Int32)))) :: (sl, (IA Z .int xs)) :: (rv, (IA Z .int (List.replicate 16 0))) :: (va, (IA Z .int (a :: b :: List.replicate 14 0))) :: (le, (LA Z ((0 : Int64) :: (0 : Int64) :: List.replicate 14 0))) :: (ss, (IA Z .byte (3 :: List.replicate 15 0))) :: (il, (ShAL Z (.int (0 : Int32)) dv (.int (0 : Int32)))) :: F) 0 #[.val (.ref t), .val (.int (1 : Int32)), .unset, .unset, .unset, .unset, .unset] []
  have la := own_s_lt a
  have lb := own_s_lt b
  refine W.aloadN d16_0 (pc' := 1) rfl rfl rfl ?_
  refine W.getF 0 0 d16_1 (host := "") (Or.inl (wd hw 10 rfl)) Via.refl rfl rfl (pc' := 4) rfl ?_
  refine W.len 1 (32 : Int32) d16_4 rfl (by rw [hlx]; rfl) (pc' := 5) rfl ?_
  refine W.iconst (1 : Int32) d16_5 (pc' := 6) rfl rfl ?_
  refine W.isub d16_6 (pc' := 7) rfl ?_
  refine W.topI (31 : Int32) (by decide) ?_
  refine W.istoreN #[.val (.ref t), .val (.int (1 : Int32)), .val (.int (31 : Int32)), .unset, .unset, .unset, .unset] d16_7 (pc' := 8) rfl rfl ?_
  refine W.aloadN d16_8 (pc' := 9) rfl rfl rfl ?_
  refine W.aloadN d16_9 (pc' := 10) rfl rfl rfl ?_
  refine W.getF 0 5 d16_10 (host := "") (Or.inl (wd hw 60 rfl)) Via.refl rfl rfl (pc' := 13) rfl ?_
  refine W.iloadN d16_13 (pc' := 14) rfl rfl ?_
  refine W.aloadN d16_14 (pc' := 15) rfl rfl rfl ?_
  refine W.getF 0 4 d16_15 (host := "") (Or.inl (wd hw 58 rfl)) Via.refl rfl rfl (pc' := 18) rfl ?_
  refine W.imul d16_18 (pc' := 19) rfl ?_
  refine W.topI (1 : Int32) (by decide) ?_
  refine W.pulls ((t, (ShTS Z (.ref sl) (.ref ix) (.ref il) (.ref rv) (.int (1 : Int32)) (.ref va) (.ref le) (.ref ss) (.int (1 : Int32)) (.int (2 : Int32)) .null (.int (1 : Int32)) (.int (0 : Int32)) (.int (0 : Int32)))) :: (va, (IA Z .int (a :: b :: List.replicate 14 0))) :: (sl, (IA Z .int xs)) :: (rv, (IA Z .int (List.replicate 16 0))) :: (le, (LA Z ((0 : Int64) :: (0 : Int64) :: List.replicate 14 0))) :: (ss, (IA Z .byte (3 :: List.replicate 15 0))) :: (il, (ShAL Z (.int (0 : Int32)) dv (.int (0 : Int32)))) :: F) [3, 1] rfl ?_
  refine W.callP 0 rfl (mHash1 l Z n0 a0 hw ((sl, (IA Z .int xs)) :: (rv, (IA Z .int (List.replicate 16 0))) :: (le, (LA Z ((0 : Int64) :: (0 : Int64) :: List.replicate 14 0))) :: (ss, (IA Z .byte (3 :: List.replicate 15 0))) :: (il, (ShAL Z (.int (0 : Int32)) dv (.int (0 : Int32)))) :: F) t va (.ref sl) (.ref ix) (.ref il) (.ref rv) (.ref va) (.ref le) (.ref ss) (.int (1 : Int32)) (.int (2 : Int32)) .null (.int (1 : Int32)) (.int (0 : Int32)) (.int (0 : Int32)) (a :: b :: List.replicate 14 0) b rfl) d16_19 (wd hw 80 rfl) (wd hw 81 rfl) (wd hw 82 rfl) (wd hw 1 rfl) (wd hw 2 rfl) (wd hw 83 rfl) (by decide) pd6 rfl rfl (Nat.le_of_ble_eq_true rfl) (Nat.le_of_ble_eq_true rfl) (Nat.le_of_ble_eq_true rfl) (Nat.le_of_ble_eq_true rfl) rfl (pc' := 22) rfl ?_
  intro v9 s9 q9
  rw [q9.1, q9.2]
  clear q9 v9 s9
  show W _ _ _ _ _ _ 0 0 ((t, (ShTS Z (.ref sl) (.ref ix) (.ref il) (.ref rv) (.int (1 : Int32)) (.ref va) (.ref le) (.ref ss) (.int (1 : Int32)) (.int (2 : Int32)) .null (.int (1 : Int32)) (.int (0 : Int32)) (.int (0 : Int32)))) :: (va, (IA Z .int (a :: b :: List.replicate 14 0))) :: (sl, (IA Z .int xs)) :: (rv, (IA Z .int (List.replicate 16 0))) :: (le, (LA Z ((0 : Int64) :: (0 : Int64) :: List.replicate 14 0))) :: (ss, (IA Z .byte (3 :: List.replicate 15 0))) :: (il, (ShAL Z (.int (0 : Int32)) dv (.int (0 : Int32)))) :: F) 22 #[.val (.ref t), .val (.int (1 : Int32)), .val (.int (31 : Int32)), .unset, .unset, .unset, .unset] [(.int (own_h b))]
  refine W.iloadN d16_22 (pc' := 23) rfl rfl ?_
  refine W.iand d16_23 (pc' := 24) rfl ?_
  refine W.topI (Int32.ofNat (own_s b)) (own_slot b) ?_
  refine W.pulls ((t, (ShTS Z (.ref sl) (.ref ix) (.ref il) (.ref rv) (.int (1 : Int32)) (.ref va) (.ref le) (.ref ss) (.int (1 : Int32)) (.int (2 : Int32)) .null (.int (1 : Int32)) (.int (0 : Int32)) (.int (0 : Int32)))) :: (sl, (IA Z .int xs)) :: (rv, (IA Z .int (List.replicate 16 0))) :: (va, (IA Z .int (a :: b :: List.replicate 14 0))) :: (le, (LA Z ((0 : Int64) :: (0 : Int64) :: List.replicate 14 0))) :: (ss, (IA Z .byte (3 :: List.replicate 15 0))) :: (il, (ShAL Z (.int (0 : Int32)) dv (.int (0 : Int32)))) :: F) [3, 3, 2] rfl ?_
  refine W.istoreN #[.val (.ref t), .val (.int (1 : Int32)), .val (.int (31 : Int32)), .val (.int (Int32.ofNat (own_s b))), .unset, .unset, .unset] d16_24 (pc' := 25) rfl rfl ?_
  refine W.aloadN d16_25 (pc' := 26) rfl rfl rfl ?_
  refine W.getF 0 0 d16_26 (host := "") (Or.inl (wd hw 10 rfl)) Via.refl rfl rfl (pc' := 29) rfl ?_
  refine W.iloadN d16_29 (pc' := 30) rfl rfl ?_
  refine W.iaload 1 (own_s b) (x := 2) d16_30 rfl (own_nn (by omega)) (own_tn (by omega)) h2 (pc' := 31) rfl ?_
  refine W.iloadN d16_31 (pc' := 32) rfl rfl ?_
  refine W.iconst (1 : Int32) d16_32 (pc' := 33) rfl rfl ?_
  refine W.iadd d16_33 (pc' := 34) rfl ?_
  refine W.topI (2 : Int32) (by decide) ?_
  refine W.icmpY d16_34 (by decide) (by decide) (pc' := 46) rfl ?_
  refine W.iloadN d16_46 (pc' := 47) rfl rfl ?_
  refine W.istore #[.val (.ref t), .val (.int (1 : Int32)), .val (.int (31 : Int32)), .val (.int (Int32.ofNat (own_s b))), .val (.int (Int32.ofNat (own_s b))), .unset, .unset] d16_47 (pc' := 49) rfl rfl ?_
  refine W.iload d16_49 (pc' := 51) rfl rfl ?_
  refine W.iconst (1 : Int32) d16_51 (pc' := 52) rfl rfl ?_
  refine W.iadd d16_52 (pc' := 53) rfl ?_
  refine W.iloadN d16_53 (pc' := 54) rfl rfl ?_
  refine W.iand d16_54 (pc' := 55) rfl ?_
  refine W.topI (Int32.ofNat ((own_s b + 1) % 32)) (own_inc (p := own_s b) (by omega)) ?_
  refine W.istore #[.val (.ref t), .val (.int (1 : Int32)), .val (.int (31 : Int32)), .val (.int (Int32.ofNat (own_s b))), .val (.int (Int32.ofNat (own_s b))), .val (.int (Int32.ofNat ((own_s b + 1) % 32))), .unset] d16_55 (pc' := 57) rfl rfl ?_
  refine W.aloadN d16_57 (pc' := 58) rfl rfl rfl ?_
  refine W.getF 0 0 d16_58 (host := "") (Or.inl (wd hw 10 rfl)) Via.refl rfl rfl (pc' := 61) rfl ?_
  refine W.iload d16_61 (pc' := 63) rfl rfl ?_
  refine W.iaload 1 ((own_s b + 1) % 32) (x := 0) d16_63 rfl (own_nn (by omega)) (own_tn (by omega)) h3 (pc' := 64) rfl ?_
  refine W.ifY d16_64 (by decide) (by decide) (pc' := 139) rfl ?_
  exact remT41 l Z n0 a0 hw F dv hdr t sl ix il rv va le ss a b xs (fun _ => True) (own_s b) _ _ _ hlx (by omega) trivial
theorem pn_mBC43 : plainFor (⟨"com/example/mendb/mendb/TupleStore", "beginCommit", "()V"⟩ : MethodName) = true := by first | (refine plainFor_of_name ?_; simp [plainName, overriddenIn]; done) | (refine plainFor_of_name ?_; decide +kernel) | decide +kernel
set_option maxRecDepth 65536 in
set_option maxHeartbeats 40000000 in
theorem mBC43 (l : Launch) (Z : State) (n0 : Nat) (a0 : Array Value) (hw : ∀ d ∈ tables_1, d.before a0 Z = true) (F : Asn) (dv : Value) (hdr : dv.isRef = true) (t sl ix il rv va le ss : Addr) (a b : Int32) (xs : List Int32) : Sp l Z n0 (⟨"com/example/mendb/mendb/TupleStore", "beginCommit", "()V"⟩ : MethodName) prog_126_method_26_code 2 none ({ frames := 0, cells := 0, slots := 0, locals := 0 } : Room) [(.ref t)] ((t, (ShTS Z (.ref sl) (.ref ix) (.ref il) (.ref rv) (.int (1 : Int32)) (.ref va) (.ref le) (.ref ss) (.int (0 : Int32)) (.int (2 : Int32)) .null (.int (2 : Int32)) (.int (0 : Int32)) (.int (0 : Int32)))) :: (sl, (IA Z .int xs)) :: (rv, (IA Z .int (0 :: 1 :: List.replicate 14 0))) :: (va, (IA Z .int (a :: b :: List.replicate 14 0))) :: (le, (LA Z ((0 : Int64) :: (0 : Int64) :: List.replicate 14 0))) :: (ss, (IA Z .byte (3 :: 3 :: List.replicate 14 0))) :: (il, (ShAL Z (.int (0 : Int32)) dv (.int (0 : Int32)))) :: F) (Ret none ((t, (ShTS Z (.ref sl) (.ref ix) (.ref il) (.ref rv) (.int (1 : Int32)) (.ref va) (.ref le) (.ref ss) (.int (0 : Int32)) (.int (2 : Int32)) .null (.int (0 : Int32)) (.int (2 : Int32)) (.int (0 : Int32)))) :: (sl, (IA Z .int xs)) :: (rv, (IA Z .int (0 :: 1 :: List.replicate 14 0))) :: (va, (IA Z .int (a :: b :: List.replicate 14 0))) :: (le, (LA Z ((0 : Int64) :: (0 : Int64) :: List.replicate 14 0))) :: (ss, (IA Z .byte (4 :: 4 :: List.replicate 14 0))) :: (il, (ShAL Z (.int (0 : Int32)) dv (.int (0 : Int32)))) :: F)) := by
  refine Sp.of (ls := #[.val (.ref t), .unset]) pn_mBC43 (fun m => by first | (simp [entryFrame, mkF, argsToLocals, Value.category]; done) | rfl) ?_
  show W _ _ _ _ _ _ 0 0 ((t, (ShTS Z (.ref sl) (.ref ix) (.ref il) (.ref rv) (.int (1 : Int32)) (.ref va) (.ref le) (.ref ss) (.int (0 : Int32)) (.int (2 : Int32)) .null (.int (2 : Int32)) (.int (0 : Int32)) (.int (0 : Int32)))) :: (sl, (IA Z .int xs)) :: (rv, (IA Z .int (0 :: 1 :: List.replicate 14 0))) :: (va, (IA Z .int (a :: b :: List.replicate 14 0))) :: (le, (LA Z ((0 : Int64) :: (0 : Int64) :: List.replicate 14 0))) :: (ss, (IA Z .byte (3 :: 3 :: List.replicate 14 0))) :: (il, (ShAL Z (.int (0 : Int32)) dv (.int (0 : Int32)))) :: F) 0 #[.val (.ref t), .unset] []
  refine W.iconst (0 : Int32) d17_0 (pc' := 1) rfl rfl ?_
  refine W.istoreN #[.val (.ref t), .val (.int (0 : Int32))] d17_1 (pc' := 2) rfl rfl ?_
  refine W.iloadN d17_2 (pc' := 3) rfl rfl ?_
  refine W.aloadN d17_3 (pc' := 4) rfl rfl rfl ?_
  refine W.getF 0 11 d17_4 (host := "") (Or.inl (wd hw 144 rfl)) Via.refl rfl rfl (pc' := 7) rfl ?_
  refine W.icmpN d17_7 (by decide) (pc' := 10) rfl ?_
  refine W.aloadN d17_10 (pc' := 11) rfl rfl rfl ?_
  refine W.getF 0 7 d17_11 (host := "") (Or.inl (wd hw 66 rfl)) Via.refl rfl rfl (pc' := 14) rfl ?_
  refine W.aloadN d17_14 (pc' := 15) rfl rfl rfl ?_
  refine W.getF 0 3 d17_15 (host := "") (Or.inl (wd hw 56 rfl)) Via.refl rfl rfl (pc' := 18) rfl ?_
  refine W.iloadN d17_18 (pc' := 19) rfl rfl ?_
  refine W.iaload 2 0 (x := 0) d17_19 rfl (by decide) rfl rfl (pc' := 20) rfl ?_
  refine W.iconst (4 : Int32) d17_20 (pc' := 21) rfl rfl ?_
  refine W.bastore ((t, (ShTS Z (.ref sl) (.ref ix) (.ref il) (.ref rv) (.int (1 : Int32)) (.ref va) (.ref le) (.ref ss) (.int (0 : Int32)) (.int (2 : Int32)) .null (.int (2 : Int32)) (.int (0 : Int32)) (.int (0 : Int32)))) :: (sl, (IA Z .int xs)) :: (rv, (IA Z .int (0 :: 1 :: List.replicate 14 0))) :: (va, (IA Z .int (a :: b :: List.replicate 14 0))) :: (le, (LA Z ((0 : Int64) :: (0 : Int64) :: List.replicate 14 0))) :: (ss, (IA Z .byte (4 :: 3 :: List.replicate 14 0))) :: (il, (ShAL Z (.int (0 : Int32)) dv (.int (0 : Int32)))) :: F) 5 0 d17_21 rfl (by decide) rfl (Nat.le_of_ble_eq_true rfl) rfl (pc' := 22) rfl ?_
  refine W.iinc #[.val (.ref t), .val (.int (1 : Int32))] (1 : Int32) (1 : Int32) d17_22 (pc' := 25) rfl rfl rfl (by decide) rfl ?_
  refine W.goto d17_25 (pc' := 2) (by decide) rfl ?_
  refine W.iloadN d17_2 (pc' := 3) rfl rfl ?_
  refine W.aloadN d17_3 (pc' := 4) rfl rfl rfl ?_
  refine W.getF 0 11 d17_4 (host := "") (Or.inl (wd hw 144 rfl)) Via.refl rfl rfl (pc' := 7) rfl ?_
  refine W.icmpN d17_7 (by decide) (pc' := 10) rfl ?_
  refine W.aloadN d17_10 (pc' := 11) rfl rfl rfl ?_
  refine W.getF 0 7 d17_11 (host := "") (Or.inl (wd hw 66 rfl)) Via.refl rfl rfl (pc' := 14) rfl ?_
  refine W.aloadN d17_14 (pc' := 15) rfl rfl rfl ?_
  refine W.getF 0 3 d17_15 (host := "") (Or.inl (wd hw 56 rfl)) Via.refl rfl rfl (pc' := 18) rfl ?_
  refine W.iloadN d17_18 (pc' := 19) rfl rfl ?_
  refine W.iaload 2 1 (x := 1) d17_19 rfl (by decide) rfl rfl (pc' := 20) rfl ?_
  refine W.iconst (4 : Int32) d17_20 (pc' := 21) rfl rfl ?_
  refine W.bastore ((t, (ShTS Z (.ref sl) (.ref ix) (.ref il) (.ref rv) (.int (1 : Int32)) (.ref va) (.ref le) (.ref ss) (.int (0 : Int32)) (.int (2 : Int32)) .null (.int (2 : Int32)) (.int (0 : Int32)) (.int (0 : Int32)))) :: (sl, (IA Z .int xs)) :: (rv, (IA Z .int (0 :: 1 :: List.replicate 14 0))) :: (va, (IA Z .int (a :: b :: List.replicate 14 0))) :: (le, (LA Z ((0 : Int64) :: (0 : Int64) :: List.replicate 14 0))) :: (ss, (IA Z .byte (4 :: 4 :: List.replicate 14 0))) :: (il, (ShAL Z (.int (0 : Int32)) dv (.int (0 : Int32)))) :: F) 5 1 d17_21 rfl (by decide) rfl (Nat.le_of_ble_eq_true rfl) rfl (pc' := 22) rfl ?_
  refine W.iinc #[.val (.ref t), .val (.int (2 : Int32))] (1 : Int32) (2 : Int32) d17_22 (pc' := 25) rfl rfl rfl (by decide) rfl ?_
  refine W.goto d17_25 (pc' := 2) (by decide) rfl ?_
  refine W.iloadN d17_2 (pc' := 3) rfl rfl ?_
  refine W.aloadN d17_3 (pc' := 4) rfl rfl rfl ?_
  refine W.getF 0 11 d17_4 (host := "") (Or.inl (wd hw 144 rfl)) Via.refl rfl rfl (pc' := 7) rfl ?_
  refine W.icmpY d17_7 (by decide) (by decide) (pc' := 28) rfl ?_
  refine W.aloadN d17_28 (pc' := 29) rfl rfl rfl ?_
  refine W.aloadN d17_29 (pc' := 30) rfl rfl rfl ?_
  refine W.getF 0 9 d17_30 (host := "") (Or.inl (wd hw 93 rfl)) Via.refl rfl rfl (pc' := 33) rfl ?_
  refine W.putF ((t, (ShTS Z (.ref sl) (.ref ix) (.ref il) (.ref rv) (.int (1 : Int32)) (.ref va) (.ref le) (.ref ss) (.int (0 : Int32)) (.int (2 : Int32)) .null (.int (2 : Int32)) (.int (2 : Int32)) (.int (0 : Int32)))) :: (sl, (IA Z .int xs)) :: (rv, (IA Z .int (0 :: 1 :: List.replicate 14 0))) :: (va, (IA Z .int (a :: b :: List.replicate 14 0))) :: (le, (LA Z ((0 : Int64) :: (0 : Int64) :: List.replicate 14 0))) :: (ss, (IA Z .byte (4 :: 4 :: List.replicate 14 0))) :: (il, (ShAL Z (.int (0 : Int32)) dv (.int (0 : Int32)))) :: F) 0 12 d17_33 (host := "") (Or.inl (wd hw 151 rfl)) Via.refl (Or.inl (wd hw 152 rfl)) (wd hw 1 rfl) (ty := .int) (by decide) rfl rfl rfl rfl rfl (pc' := 36) rfl ?_
  refine W.aloadN d17_36 (pc' := 37) rfl rfl rfl ?_
  refine W.iconst (0 : Int32) d17_37 (pc' := 38) rfl rfl ?_
  refine W.putF ((t, (ShTS Z (.ref sl) (.ref ix) (.ref il) (.ref rv) (.int (1 : Int32)) (.ref va) (.ref le) (.ref ss) (.int (0 : Int32)) (.int (2 : Int32)) .null (.int (0 : Int32)) (.int (2 : Int32)) (.int (0 : Int32)))) :: (sl, (IA Z .int xs)) :: (rv, (IA Z .int (0 :: 1 :: List.replicate 14 0))) :: (va, (IA Z .int (a :: b :: List.replicate 14 0))) :: (le, (LA Z ((0 : Int64) :: (0 : Int64) :: List.replicate 14 0))) :: (ss, (IA Z .byte (4 :: 4 :: List.replicate 14 0))) :: (il, (ShAL Z (.int (0 : Int32)) dv (.int (0 : Int32)))) :: F) 0 11 d17_38 (host := "") (Or.inl (wd hw 144 rfl)) Via.refl (Or.inl (wd hw 145 rfl)) (wd hw 1 rfl) (ty := .int) (by decide) rfl rfl rfl rfl rfl (pc' := 41) rfl ?_
  refine W.aloadN d17_41 (pc' := 42) rfl rfl rfl ?_
  refine W.aloadN d17_42 (pc' := 43) rfl rfl rfl ?_
  refine W.getF 0 8 d17_43 (host := "") (Or.inl (wd hw 78 rfl)) Via.refl rfl rfl (pc' := 46) rfl ?_
  refine W.putF ((t, (ShTS Z (.ref sl) (.ref ix) (.ref il) (.ref rv) (.int (1 : Int32)) (.ref va) (.ref le) (.ref ss) (.int (0 : Int32)) (.int (2 : Int32)) .null (.int (0 : Int32)) (.int (2 : Int32)) (.int (0 : Int32)))) :: (sl, (IA Z .int xs)) :: (rv, (IA Z .int (0 :: 1 :: List.replicate 14 0))) :: (va, (IA Z .int (a :: b :: List.replicate 14 0))) :: (le, (LA Z ((0 : Int64) :: (0 : Int64) :: List.replicate 14 0))) :: (ss, (IA Z .byte (4 :: 4 :: List.replicate 14 0))) :: (il, (ShAL Z (.int (0 : Int32)) dv (.int (0 : Int32)))) :: F) 0 13 d17_46 (host := "") (Or.inl (wd hw 153 rfl)) Via.refl (Or.inl (wd hw 154 rfl)) (wd hw 1 rfl) (ty := .int) (by decide) rfl rfl rfl rfl rfl (pc' := 49) rfl ?_
  exact W.retV d17_49 rfl (by decide) (by decide) ⟨rfl, rfl⟩
theorem pn_mG44 : plainFor (⟨"com/example/mendb/mendb/TupleStore", "state", "(I)B"⟩ : MethodName) = true := by first | (refine plainFor_of_name ?_; simp [plainName, overriddenIn]; done) | (refine plainFor_of_name ?_; decide +kernel) | decide +kernel
set_option maxRecDepth 65536 in
set_option maxHeartbeats 40000000 in
theorem mG44 (l : Launch) (Z : State) (n0 : Nat) (a0 : Array Value) (hw : ∀ d ∈ tables_1, d.before a0 Z = true) (F : Asn) (dv : Value) (hdr : dv.isRef = true) (t sl ix il rv va le ss : Addr) (a b : Int32) (xs : List Int32) : Sp l Z n0 (⟨"com/example/mendb/mendb/TupleStore", "state", "(I)B"⟩ : MethodName) prog_126_method_14_code 2 (some .byte) ({ frames := 0, cells := 0, slots := 0, locals := 0 } : Room) [(.ref t), (.int (0 : Int32))] ((t, (ShTS Z (.ref sl) (.ref ix) (.ref il) (.ref rv) (.int (1 : Int32)) (.ref va) (.ref le) (.ref ss) (.int (0 : Int32)) (.int (2 : Int32)) .null (.int (0 : Int32)) (.int (2 : Int32)) (.int (0 : Int32)))) :: (sl, (IA Z .int xs)) :: (rv, (IA Z .int (0 :: 1 :: List.replicate 14 0))) :: (va, (IA Z .int (a :: b :: List.replicate 14 0))) :: (le, (LA Z ((0 : Int64) :: (0 : Int64) :: List.replicate 14 0))) :: (ss, (IA Z .byte (4 :: 4 :: List.replicate 14 0))) :: (il, (ShAL Z (.int (0 : Int32)) dv (.int (0 : Int32)))) :: F) (Ret (some (.int 4)) ((t, (ShTS Z (.ref sl) (.ref ix) (.ref il) (.ref rv) (.int (1 : Int32)) (.ref va) (.ref le) (.ref ss) (.int (0 : Int32)) (.int (2 : Int32)) .null (.int (0 : Int32)) (.int (2 : Int32)) (.int (0 : Int32)))) :: (sl, (IA Z .int xs)) :: (rv, (IA Z .int (0 :: 1 :: List.replicate 14 0))) :: (va, (IA Z .int (a :: b :: List.replicate 14 0))) :: (le, (LA Z ((0 : Int64) :: (0 : Int64) :: List.replicate 14 0))) :: (ss, (IA Z .byte (4 :: 4 :: List.replicate 14 0))) :: (il, (ShAL Z (.int (0 : Int32)) dv (.int (0 : Int32)))) :: F)) := by
  refine Sp.of (ls := #[.val (.ref t), .val (.int (0 : Int32))]) pn_mG44 (fun m => by first | (simp [entryFrame, mkF, argsToLocals, Value.category]; done) | rfl) ?_
  show W _ _ _ _ _ _ 0 0 ((t, (ShTS Z (.ref sl) (.ref ix) (.ref il) (.ref rv) (.int (1 : Int32)) (.ref va) (.ref le) (.ref ss) (.int (0 : Int32)) (.int (2 : Int32)) .null (.int (0 : Int32)) (.int (2 : Int32)) (.int (0 : Int32)))) :: (sl, (IA Z .int xs)) :: (rv, (IA Z .int (0 :: 1 :: List.replicate 14 0))) :: (va, (IA Z .int (a :: b :: List.replicate 14 0))) :: (le, (LA Z ((0 : Int64) :: (0 : Int64) :: List.replicate 14 0))) :: (ss, (IA Z .byte (4 :: 4 :: List.replicate 14 0))) :: (il, (ShAL Z (.int (0 : Int32)) dv (.int (0 : Int32)))) :: F) 0 #[.val (.ref t), .val (.int (0 : Int32))] []
  refine W.aloadN d18_0 (pc' := 1) rfl rfl rfl ?_
  refine W.getF 0 7 d18_1 (host := "") (Or.inl (wd hw 66 rfl)) Via.refl rfl rfl (pc' := 4) rfl ?_
  refine W.iloadN d18_4 (pc' := 5) rfl rfl ?_
  refine W.baload 5 0 (x := 4) d18_5 rfl (by decide) rfl rfl (pc' := 6) rfl ?_
  exact W.retN (t := .byte) 4 d18_6 rfl (by simp) rfl (by decide) (by decide) ⟨rfl, rfl⟩
theorem pn_mG45 : plainFor (⟨"com/example/mendb/mendb/TupleStore", "state", "(I)B"⟩ : MethodName) = true := by first | (refine plainFor_of_name ?_; simp [plainName, overriddenIn]; done) | (refine plainFor_of_name ?_; decide +kernel) | decide +kernel
set_option maxRecDepth 65536 in
set_option maxHeartbeats 40000000 in
theorem mG45 (l : Launch) (Z : State) (n0 : Nat) (a0 : Array Value) (hw : ∀ d ∈ tables_1, d.before a0 Z = true) (F : Asn) (dv : Value) (hdr : dv.isRef = true) (t sl ix il rv va le ss : Addr) (a b : Int32) (xs : List Int32) : Sp l Z n0 (⟨"com/example/mendb/mendb/TupleStore", "state", "(I)B"⟩ : MethodName) prog_126_method_14_code 2 (some .byte) ({ frames := 0, cells := 0, slots := 0, locals := 0 } : Room) [(.ref t), (.int (1 : Int32))] ((t, (ShTS Z (.ref sl) (.ref ix) (.ref il) (.ref rv) (.int (1 : Int32)) (.ref va) (.ref le) (.ref ss) (.int (0 : Int32)) (.int (2 : Int32)) .null (.int (0 : Int32)) (.int (2 : Int32)) (.int (0 : Int32)))) :: (sl, (IA Z .int xs)) :: (rv, (IA Z .int (0 :: 1 :: List.replicate 14 0))) :: (va, (IA Z .int (a :: b :: List.replicate 14 0))) :: (le, (LA Z ((0 : Int64) :: (0 : Int64) :: List.replicate 14 0))) :: (ss, (IA Z .byte (4 :: 4 :: List.replicate 14 0))) :: (il, (ShAL Z (.int (0 : Int32)) dv (.int (0 : Int32)))) :: F) (Ret (some (.int 4)) ((t, (ShTS Z (.ref sl) (.ref ix) (.ref il) (.ref rv) (.int (1 : Int32)) (.ref va) (.ref le) (.ref ss) (.int (0 : Int32)) (.int (2 : Int32)) .null (.int (0 : Int32)) (.int (2 : Int32)) (.int (0 : Int32)))) :: (sl, (IA Z .int xs)) :: (rv, (IA Z .int (0 :: 1 :: List.replicate 14 0))) :: (va, (IA Z .int (a :: b :: List.replicate 14 0))) :: (le, (LA Z ((0 : Int64) :: (0 : Int64) :: List.replicate 14 0))) :: (ss, (IA Z .byte (4 :: 4 :: List.replicate 14 0))) :: (il, (ShAL Z (.int (0 : Int32)) dv (.int (0 : Int32)))) :: F)) := by
  refine Sp.of (ls := #[.val (.ref t), .val (.int (1 : Int32))]) pn_mG45 (fun m => by first | (simp [entryFrame, mkF, argsToLocals, Value.category]; done) | rfl) ?_
  show W _ _ _ _ _ _ 0 0 ((t, (ShTS Z (.ref sl) (.ref ix) (.ref il) (.ref rv) (.int (1 : Int32)) (.ref va) (.ref le) (.ref ss) (.int (0 : Int32)) (.int (2 : Int32)) .null (.int (0 : Int32)) (.int (2 : Int32)) (.int (0 : Int32)))) :: (sl, (IA Z .int xs)) :: (rv, (IA Z .int (0 :: 1 :: List.replicate 14 0))) :: (va, (IA Z .int (a :: b :: List.replicate 14 0))) :: (le, (LA Z ((0 : Int64) :: (0 : Int64) :: List.replicate 14 0))) :: (ss, (IA Z .byte (4 :: 4 :: List.replicate 14 0))) :: (il, (ShAL Z (.int (0 : Int32)) dv (.int (0 : Int32)))) :: F) 0 #[.val (.ref t), .val (.int (1 : Int32))] []
  refine W.aloadN d18_0 (pc' := 1) rfl rfl rfl ?_
  refine W.getF 0 7 d18_1 (host := "") (Or.inl (wd hw 66 rfl)) Via.refl rfl rfl (pc' := 4) rfl ?_
  refine W.iloadN d18_4 (pc' := 5) rfl rfl ?_
  refine W.baload 5 1 (x := 4) d18_5 rfl (by decide) rfl rfl (pc' := 6) rfl ?_
  exact W.retN (t := .byte) 4 d18_6 rfl (by simp) rfl (by decide) (by decide) ⟨rfl, rfl⟩
theorem pn_mG46 : plainFor (⟨"com/example/mendb/mendb/TupleStore", "firstAdded", "()I"⟩ : MethodName) = true := by first | (refine plainFor_of_name ?_; simp [plainName, overriddenIn]; done) | (refine plainFor_of_name ?_; decide +kernel) | decide +kernel
set_option maxRecDepth 65536 in
set_option maxHeartbeats 40000000 in
theorem mG46 (l : Launch) (Z : State) (n0 : Nat) (a0 : Array Value) (hw : ∀ d ∈ tables_1, d.before a0 Z = true) (F : Asn) (dv : Value) (hdr : dv.isRef = true) (t sl ix il rv va le ss : Addr) (a b : Int32) (xs : List Int32) : Sp l Z n0 (⟨"com/example/mendb/mendb/TupleStore", "firstAdded", "()I"⟩ : MethodName) prog_126_method_27_code 1 (some .int) ({ frames := 0, cells := 0, slots := 0, locals := 0 } : Room) [(.ref t)] ((t, (ShTS Z (.ref sl) (.ref ix) (.ref il) (.ref rv) (.int (1 : Int32)) (.ref va) (.ref le) (.ref ss) (.int (0 : Int32)) (.int (2 : Int32)) .null (.int (0 : Int32)) (.int (2 : Int32)) (.int (0 : Int32)))) :: (sl, (IA Z .int xs)) :: (rv, (IA Z .int (0 :: 1 :: List.replicate 14 0))) :: (va, (IA Z .int (a :: b :: List.replicate 14 0))) :: (le, (LA Z ((0 : Int64) :: (0 : Int64) :: List.replicate 14 0))) :: (ss, (IA Z .byte (4 :: 4 :: List.replicate 14 0))) :: (il, (ShAL Z (.int (0 : Int32)) dv (.int (0 : Int32)))) :: F) (Ret (some (.int 2)) ((t, (ShTS Z (.ref sl) (.ref ix) (.ref il) (.ref rv) (.int (1 : Int32)) (.ref va) (.ref le) (.ref ss) (.int (0 : Int32)) (.int (2 : Int32)) .null (.int (0 : Int32)) (.int (2 : Int32)) (.int (0 : Int32)))) :: (sl, (IA Z .int xs)) :: (rv, (IA Z .int (0 :: 1 :: List.replicate 14 0))) :: (va, (IA Z .int (a :: b :: List.replicate 14 0))) :: (le, (LA Z ((0 : Int64) :: (0 : Int64) :: List.replicate 14 0))) :: (ss, (IA Z .byte (4 :: 4 :: List.replicate 14 0))) :: (il, (ShAL Z (.int (0 : Int32)) dv (.int (0 : Int32)))) :: F)) := by
  refine Sp.of (ls := #[.val (.ref t)]) pn_mG46 (fun m => by first | (simp [entryFrame, mkF, argsToLocals, Value.category]; done) | rfl) ?_
  show W _ _ _ _ _ _ 0 0 ((t, (ShTS Z (.ref sl) (.ref ix) (.ref il) (.ref rv) (.int (1 : Int32)) (.ref va) (.ref le) (.ref ss) (.int (0 : Int32)) (.int (2 : Int32)) .null (.int (0 : Int32)) (.int (2 : Int32)) (.int (0 : Int32)))) :: (sl, (IA Z .int xs)) :: (rv, (IA Z .int (0 :: 1 :: List.replicate 14 0))) :: (va, (IA Z .int (a :: b :: List.replicate 14 0))) :: (le, (LA Z ((0 : Int64) :: (0 : Int64) :: List.replicate 14 0))) :: (ss, (IA Z .byte (4 :: 4 :: List.replicate 14 0))) :: (il, (ShAL Z (.int (0 : Int32)) dv (.int (0 : Int32)))) :: F) 0 #[.val (.ref t)] []
  refine W.aloadN d19_0 (pc' := 1) rfl rfl rfl ?_
  refine W.getF 0 12 d19_1 (host := "") (Or.inl (wd hw 151 rfl)) Via.refl rfl rfl (pc' := 4) rfl ?_
  exact W.retI d19_4 rfl (by decide) (by decide) ⟨rfl, rfl⟩
theorem pn_mG47 : plainFor (⟨"com/example/mendb/mendb/TupleStore", "removedCount", "()I"⟩ : MethodName) = true := by first | (refine plainFor_of_name ?_; simp [plainName, overriddenIn]; done) | (refine plainFor_of_name ?_; decide +kernel) | decide +kernel
set_option maxRecDepth 65536 in
set_option maxHeartbeats 40000000 in
theorem mG47 (l : Launch) (Z : State) (n0 : Nat) (a0 : Array Value) (hw : ∀ d ∈ tables_1, d.before a0 Z = true) (F : Asn) (dv : Value) (hdr : dv.isRef = true) (t sl ix il rv va le ss : Addr) (a b : Int32) (xs : List Int32) : Sp l Z n0 (⟨"com/example/mendb/mendb/TupleStore", "removedCount", "()I"⟩ : MethodName) prog_126_method_28_code 1 (some .int) ({ frames := 0, cells := 0, slots := 0, locals := 0 } : Room) [(.ref t)] ((t, (ShTS Z (.ref sl) (.ref ix) (.ref il) (.ref rv) (.int (1 : Int32)) (.ref va) (.ref le) (.ref ss) (.int (0 : Int32)) (.int (2 : Int32)) .null (.int (0 : Int32)) (.int (2 : Int32)) (.int (0 : Int32)))) :: (sl, (IA Z .int xs)) :: (rv, (IA Z .int (0 :: 1 :: List.replicate 14 0))) :: (va, (IA Z .int (a :: b :: List.replicate 14 0))) :: (le, (LA Z ((0 : Int64) :: (0 : Int64) :: List.replicate 14 0))) :: (ss, (IA Z .byte (4 :: 4 :: List.replicate 14 0))) :: (il, (ShAL Z (.int (0 : Int32)) dv (.int (0 : Int32)))) :: F) (Ret (some (.int 0)) ((t, (ShTS Z (.ref sl) (.ref ix) (.ref il) (.ref rv) (.int (1 : Int32)) (.ref va) (.ref le) (.ref ss) (.int (0 : Int32)) (.int (2 : Int32)) .null (.int (0 : Int32)) (.int (2 : Int32)) (.int (0 : Int32)))) :: (sl, (IA Z .int xs)) :: (rv, (IA Z .int (0 :: 1 :: List.replicate 14 0))) :: (va, (IA Z .int (a :: b :: List.replicate 14 0))) :: (le, (LA Z ((0 : Int64) :: (0 : Int64) :: List.replicate 14 0))) :: (ss, (IA Z .byte (4 :: 4 :: List.replicate 14 0))) :: (il, (ShAL Z (.int (0 : Int32)) dv (.int (0 : Int32)))) :: F)) := by
  refine Sp.of (ls := #[.val (.ref t)]) pn_mG47 (fun m => by first | (simp [entryFrame, mkF, argsToLocals, Value.category]; done) | rfl) ?_
  show W _ _ _ _ _ _ 0 0 ((t, (ShTS Z (.ref sl) (.ref ix) (.ref il) (.ref rv) (.int (1 : Int32)) (.ref va) (.ref le) (.ref ss) (.int (0 : Int32)) (.int (2 : Int32)) .null (.int (0 : Int32)) (.int (2 : Int32)) (.int (0 : Int32)))) :: (sl, (IA Z .int xs)) :: (rv, (IA Z .int (0 :: 1 :: List.replicate 14 0))) :: (va, (IA Z .int (a :: b :: List.replicate 14 0))) :: (le, (LA Z ((0 : Int64) :: (0 : Int64) :: List.replicate 14 0))) :: (ss, (IA Z .byte (4 :: 4 :: List.replicate 14 0))) :: (il, (ShAL Z (.int (0 : Int32)) dv (.int (0 : Int32)))) :: F) 0 #[.val (.ref t)] []
  refine W.aloadN d20_0 (pc' := 1) rfl rfl rfl ?_
  refine W.getF 0 11 d20_1 (host := "") (Or.inl (wd hw 144 rfl)) Via.refl rfl rfl (pc' := 4) rfl ?_
  exact W.retI d20_4 rfl (by decide) (by decide) ⟨rfl, rfl⟩
theorem pn_mG48 : plainFor (⟨"com/example/mendb/mendb/TupleStore", "countAtStart", "()I"⟩ : MethodName) = true := by first | (refine plainFor_of_name ?_; simp [plainName, overriddenIn]; done) | (refine plainFor_of_name ?_; decide +kernel) | decide +kernel
set_option maxRecDepth 65536 in
set_option maxHeartbeats 40000000 in
theorem mG48 (l : Launch) (Z : State) (n0 : Nat) (a0 : Array Value) (hw : ∀ d ∈ tables_1, d.before a0 Z = true) (F : Asn) (dv : Value) (hdr : dv.isRef = true) (t sl ix il rv va le ss : Addr) (a b : Int32) (xs : List Int32) : Sp l Z n0 (⟨"com/example/mendb/mendb/TupleStore", "countAtStart", "()I"⟩ : MethodName) prog_126_method_18_code 1 (some .int) ({ frames := 0, cells := 0, slots := 0, locals := 0 } : Room) [(.ref t)] ((t, (ShTS Z (.ref sl) (.ref ix) (.ref il) (.ref rv) (.int (1 : Int32)) (.ref va) (.ref le) (.ref ss) (.int (0 : Int32)) (.int (2 : Int32)) .null (.int (0 : Int32)) (.int (2 : Int32)) (.int (0 : Int32)))) :: (sl, (IA Z .int xs)) :: (rv, (IA Z .int (0 :: 1 :: List.replicate 14 0))) :: (va, (IA Z .int (a :: b :: List.replicate 14 0))) :: (le, (LA Z ((0 : Int64) :: (0 : Int64) :: List.replicate 14 0))) :: (ss, (IA Z .byte (4 :: 4 :: List.replicate 14 0))) :: (il, (ShAL Z (.int (0 : Int32)) dv (.int (0 : Int32)))) :: F) (Ret (some (.int 0)) ((t, (ShTS Z (.ref sl) (.ref ix) (.ref il) (.ref rv) (.int (1 : Int32)) (.ref va) (.ref le) (.ref ss) (.int (0 : Int32)) (.int (2 : Int32)) .null (.int (0 : Int32)) (.int (2 : Int32)) (.int (0 : Int32)))) :: (sl, (IA Z .int xs)) :: (rv, (IA Z .int (0 :: 1 :: List.replicate 14 0))) :: (va, (IA Z .int (a :: b :: List.replicate 14 0))) :: (le, (LA Z ((0 : Int64) :: (0 : Int64) :: List.replicate 14 0))) :: (ss, (IA Z .byte (4 :: 4 :: List.replicate 14 0))) :: (il, (ShAL Z (.int (0 : Int32)) dv (.int (0 : Int32)))) :: F)) := by
  refine Sp.of (ls := #[.val (.ref t)]) pn_mG48 (fun m => by first | (simp [entryFrame, mkF, argsToLocals, Value.category]; done) | rfl) ?_
  show W _ _ _ _ _ _ 0 0 ((t, (ShTS Z (.ref sl) (.ref ix) (.ref il) (.ref rv) (.int (1 : Int32)) (.ref va) (.ref le) (.ref ss) (.int (0 : Int32)) (.int (2 : Int32)) .null (.int (0 : Int32)) (.int (2 : Int32)) (.int (0 : Int32)))) :: (sl, (IA Z .int xs)) :: (rv, (IA Z .int (0 :: 1 :: List.replicate 14 0))) :: (va, (IA Z .int (a :: b :: List.replicate 14 0))) :: (le, (LA Z ((0 : Int64) :: (0 : Int64) :: List.replicate 14 0))) :: (ss, (IA Z .byte (4 :: 4 :: List.replicate 14 0))) :: (il, (ShAL Z (.int (0 : Int32)) dv (.int (0 : Int32)))) :: F) 0 #[.val (.ref t)] []
  refine W.aloadN d21_0 (pc' := 1) rfl rfl rfl ?_
  refine W.getF 0 13 d21_1 (host := "") (Or.inl (wd hw 153 rfl)) Via.refl rfl rfl (pc' := 4) rfl ?_
  exact W.retI d21_4 rfl (by decide) (by decide) ⟨rfl, rfl⟩
set_option maxRecDepth 65536 in
set_option maxHeartbeats 40000000 in
theorem remT49 (l : Launch) (Z : State) (n0 : Nat) (a0 : Array Value) (hw : ∀ d ∈ tables_1, d.before a0 Z = true) (F : Asn) (dv : Value) (hdr : dv.isRef = true) (t sl ix il rv va le ss : Addr) (a b : Int32) (xs : List Int32) (K : List Int32 → Prop) (p : Nat) (i3 i5 : Int32) (s6 : Slot) (hlx : xs.length = 32) (hp : p < 32) (hK : K (xs.set p 0)) : W l Z n0 ("com/example/mendb/mendb/TupleStore", "remove", prog_126_method_25_code, 7, none) ({ frames := 2, cells := 0, slots := 0, locals := 40 } : Room) (fun v σ' => v = none ∧ ∃ xs' : List Int32, xs'.length = 32 ∧ K xs' ∧ σ' = ((t, (ShTS Z (.ref sl) (.ref ix) (.ref il) (.ref rv) (.int (1 : Int32)) (.ref va) (.ref le) (.ref ss) (.int (0 : Int32)) (.int (2 : Int32)) .null (.int (1 : Int32)) (.int (2 : Int32)) (.int (1 : Int32)))) :: (sl, (IA Z .int xs')) :: (rv, (IA Z .int (1 :: List.replicate 15 0))) :: (va, (IA Z .int (a :: b :: List.replicate 14 0))) :: (le, (LA Z ((0 : Int64) :: (0 : Int64) :: List.replicate 14 0))) :: (ss, (IA Z .byte (4 :: 3 :: List.replicate 14 0))) :: (il, (ShAL Z (.int (0 : Int32)) dv (.int (0 : Int32)))) :: F)) 0 0 ((t, (ShTS Z (.ref sl) (.ref ix) (.ref il) (.ref rv) (.int (1 : Int32)) (.ref va) (.ref le) (.ref ss) (.int (1 : Int32)) (.int (2 : Int32)) .null (.int (0 : Int32)) (.int (2 : Int32)) (.int (1 : Int32)))) :: (sl, (IA Z .int xs)) :: (rv, (IA Z .int (List.replicate 16 0))) :: (va, (IA Z .int (a :: b :: List.replicate 14 0))) :: (le, (LA Z ((0 : Int64) :: (0 : Int64) :: List.replicate 14 0))) :: (ss, (IA Z .byte (4 :: List.replicate 15 0))) :: (il, (ShAL Z (.int (0 : Int32)) dv (.int (0 : Int32)))) :: F) 139 #[.val (.ref t), .val (.int (1 : Int32)), .val (.int (31 : Int32)), .val (.int i3), .val (.int (Int32.ofNat p)), .val (.int i5), s6] [] := by
  refine W.aloadN d16_139 (pc' := 140) rfl rfl rfl ?_
  refine W.getF 0 0 d16_140 (host := "") (Or.inl (wd hw 10 rfl)) Via.refl rfl rfl (pc' := 143) rfl ?_
  refine W.iload d16_143 (pc' := 145) rfl rfl ?_
  refine W.iconst (0 : Int32) d16_145 (pc' := 146) rfl rfl ?_
  refine W.iastore ((t, (ShTS Z (.ref sl) (.ref ix) (.ref il) (.ref rv) (.int (1 : Int32)) (.ref va) (.ref le) (.ref ss) (.int (1 : Int32)) (.int (2 : Int32)) .null (.int (0 : Int32)) (.int (2 : Int32)) (.int (1 : Int32)))) :: (sl, (IA Z .int (xs.set p 0))) :: (rv, (IA Z .int (List.replicate 16 0))) :: (va, (IA Z .int (a :: b :: List.replicate 14 0))) :: (le, (LA Z ((0 : Int64) :: (0 : Int64) :: List.replicate 14 0))) :: (ss, (IA Z .byte (4 :: List.replicate 15 0))) :: (il, (ShAL Z (.int (0 : Int32)) dv (.int (0 : Int32)))) :: F) 1 p d16_146 rfl (own_nn hp) (own_tn hp) (by rw [hlx]; exact hp) rfl (pc' := 147) rfl ?_
  refine W.aloadN d16_147 (pc' := 148) rfl rfl rfl ?_
  refine W.getF 0 7 d16_148 (host := "") (Or.inl (wd hw 66 rfl)) Via.refl rfl rfl (pc' := 151) rfl ?_
  refine W.iloadN d16_151 (pc' := 152) rfl rfl ?_
  refine W.iconst (3 : Int32) d16_152 (pc' := 153) rfl rfl ?_
  refine W.bastore ((t, (ShTS Z (.ref sl) (.ref ix) (.ref il) (.ref rv) (.int (1 : Int32)) (.ref va) (.ref le) (.ref ss) (.int (1 : Int32)) (.int (2 : Int32)) .null (.int (0 : Int32)) (.int (2 : Int32)) (.int (1 : Int32)))) :: (sl, (IA Z .int (xs.set p 0))) :: (rv, (IA Z .int (List.replicate 16 0))) :: (va, (IA Z .int (a :: b :: List.replicate 14 0))) :: (le, (LA Z ((0 : Int64) :: (0 : Int64) :: List.replicate 14 0))) :: (ss, (IA Z .byte (4 :: 3 :: List.replicate 14 0))) :: (il, (ShAL Z (.int (0 : Int32)) dv (.int (0 : Int32)))) :: F) 5 1 d16_153 rfl (by decide) rfl (Nat.le_of_ble_eq_true rfl) rfl (pc' := 154) rfl ?_
  refine W.aloadN d16_154 (pc' := 155) rfl rfl rfl ?_
  refine W.dup d16_155 (pc' := 156) rfl rfl ?_
  refine W.getF 0 8 d16_156 (host := "") (Or.inl (wd hw 78 rfl)) Via.refl rfl rfl (pc' := 159) rfl ?_
  refine W.iconst (1 : Int32) d16_159 (pc' := 160) rfl rfl ?_
  refine W.isub d16_160 (pc' := 161) rfl ?_
  refine W.topI (0 : Int32) (by decide) ?_
  refine W.putF ((t, (ShTS Z (.ref sl) (.ref ix) (.ref il) (.ref rv) (.int (1 : Int32)) (.ref va) (.ref le) (.ref ss) (.int (0 : Int32)) (.int (2 : Int32)) .null (.int (0 : Int32)) (.int (2 : Int32)) (.int (1 : Int32)))) :: (sl, (IA Z .int (xs.set p 0))) :: (rv, (IA Z .int (List.replicate 16 0))) :: (va, (IA Z .int (a :: b :: List.replicate 14 0))) :: (le, (LA Z ((0 : Int64) :: (0 : Int64) :: List.replicate 14 0))) :: (ss, (IA Z .byte (4 :: 3 :: List.replicate 14 0))) :: (il, (ShAL Z (.int (0 : Int32)) dv (.int (0 : Int32)))) :: F) 0 8 d16_161 (host := "") (Or.inl (wd hw 78 rfl)) Via.refl (Or.inl (wd hw 79 rfl)) (wd hw 1 rfl) (ty := .int) (by decide) rfl rfl rfl rfl rfl (pc' := 164) rfl ?_
  refine W.aloadN d16_164 (pc' := 165) rfl rfl rfl ?_
  refine W.getF 0 11 d16_165 (host := "") (Or.inl (wd hw 144 rfl)) Via.refl rfl rfl (pc' := 168) rfl ?_
  refine W.aloadN d16_168 (pc' := 169) rfl rfl rfl ?_
  refine W.getF 0 3 d16_169 (host := "") (Or.inl (wd hw 56 rfl)) Via.refl rfl rfl (pc' := 172) rfl ?_
  refine W.len 2 (16 : Int32) d16_172 rfl rfl (pc' := 173) rfl ?_
  refine W.icmpY d16_173 (by decide) (by decide) (pc' := 193) rfl ?_
  refine W.aloadN d16_193 (pc' := 194) rfl rfl rfl ?_
  refine W.getF 0 3 d16_194 (host := "") (Or.inl (wd hw 56 rfl)) Via.refl rfl rfl (pc' := 197) rfl ?_
  refine W.aloadN d16_197 (pc' := 198) rfl rfl rfl ?_
  refine W.getF 0 11 d16_198 (host := "") (Or.inl (wd hw 144 rfl)) Via.refl rfl rfl (pc' := 201) rfl ?_
  refine W.iloadN d16_201 (pc' := 202) rfl rfl ?_
  refine W.iastore ((t, (ShTS Z (.ref sl) (.ref ix) (.ref il) (.ref rv) (.int (1 : Int32)) (.ref va) (.ref le) (.ref ss) (.int (0 : Int32)) (.int (2 : Int32)) .null (.int (0 : Int32)) (.int (2 : Int32)) (.int (1 : Int32)))) :: (sl, (IA Z .int (xs.set p 0))) :: (rv, (IA Z .int (1 :: List.replicate 15 0))) :: (va, (IA Z .int (a :: b :: List.replicate 14 0))) :: (le, (LA Z ((0 : Int64) :: (0 : Int64) :: List.replicate 14 0))) :: (ss, (IA Z .byte (4 :: 3 :: List.replicate 14 0))) :: (il, (ShAL Z (.int (0 : Int32)) dv (.int (0 : Int32)))) :: F) 2 0 d16_202 rfl (by decide) rfl (Nat.le_of_ble_eq_true rfl) rfl (pc' := 203) rfl ?_
  refine W.aloadN d16_203 (pc' := 204) rfl rfl rfl ?_
  refine W.dup d16_204 (pc' := 205) rfl rfl ?_
  refine W.getF 0 11 d16_205 (host := "") (Or.inl (wd hw 144 rfl)) Via.refl rfl rfl (pc' := 208) rfl ?_
  refine W.iconst (1 : Int32) d16_208 (pc' := 209) rfl rfl ?_
  refine W.iadd d16_209 (pc' := 210) rfl ?_
  refine W.topI (1 : Int32) (by decide) ?_
  refine W.putF ((t, (ShTS Z (.ref sl) (.ref ix) (.ref il) (.ref rv) (.int (1 : Int32)) (.ref va) (.ref le) (.ref ss) (.int (0 : Int32)) (.int (2 : Int32)) .null (.int (1 : Int32)) (.int (2 : Int32)) (.int (1 : Int32)))) :: (sl, (IA Z .int (xs.set p 0))) :: (rv, (IA Z .int (1 :: List.replicate 15 0))) :: (va, (IA Z .int (a :: b :: List.replicate 14 0))) :: (le, (LA Z ((0 : Int64) :: (0 : Int64) :: List.replicate 14 0))) :: (ss, (IA Z .byte (4 :: 3 :: List.replicate 14 0))) :: (il, (ShAL Z (.int (0 : Int32)) dv (.int (0 : Int32)))) :: F) 0 11 d16_210 (host := "") (Or.inl (wd hw 144 rfl)) Via.refl (Or.inl (wd hw 145 rfl)) (wd hw 1 rfl) (ty := .int) (by decide) rfl rfl rfl rfl rfl (pc' := 213) rfl ?_
  exact W.retV d16_213 rfl (by decide) (by decide) ⟨rfl, _, by rw [List.length_set]; exact hlx, hK, rfl⟩
theorem pn_mRem50 : plainFor (⟨"com/example/mendb/mendb/TupleStore", "remove", "(I)V"⟩ : MethodName) = true := by first | (refine plainFor_of_name ?_; simp [plainName, overriddenIn]; done) | (refine plainFor_of_name ?_; decide +kernel) | decide +kernel
set_option maxRecDepth 65536 in
set_option maxHeartbeats 40000000 in
theorem mRem50 (l : Launch) (Z : State) (n0 : Nat) (a0 : Array Value) (hw : ∀ d ∈ tables_1, d.before a0 Z = true) (F : Asn) (dv : Value) (hdr : dv.isRef = true) (t sl ix il rv va le ss : Addr) (a b : Int32) (xs : List Int32) (hlx : xs.length = 32) (h2 : xs[own_s b]? = some 2) (h3 : xs[(own_s b + 1) % 32]? = some 0) : Sp l Z n0 (⟨"com/example/mendb/mendb/TupleStore", "remove", "(I)V"⟩ : MethodName) prog_126_method_25_code 7 none ({ frames := 2, cells := 0, slots := 0, locals := 40 } : Room) [(.ref t), (.int (1 : Int32))] ((t, (ShTS Z (.ref sl) (.ref ix) (.ref il) (.ref rv) (.int (1 : Int32)) (.ref va) (.ref le) (.ref ss) (.int (1 : Int32)) (.int (2 : Int32)) .null (.int (0 : Int32)) (.int (2 : Int32)) (.int (1 : Int32)))) :: (sl, (IA Z .int xs)) :: (rv, (IA Z .int (List.replicate 16 0))) :: (va, (IA Z .int (a :: b :: List.replicate 14 0))) :: (le, (LA Z ((0 : Int64) :: (0 : Int64) :: List.replicate 14 0))) :: (ss, (IA Z .byte (4 :: List.replicate 15 0))) :: (il, (ShAL Z (.int (0 : Int32)) dv (.int (0 : Int32)))) :: F) (fun v σ' => v = none ∧ ∃ xs' : List Int32, xs'.length = 32 ∧ (fun _ => True) xs' ∧ σ' = ((t, (ShTS Z (.ref sl) (.ref ix) (.ref il) (.ref rv) (.int (1 : Int32)) (.ref va) (.ref le) (.ref ss) (.int (0 : Int32)) (.int (2 : Int32)) .null (.int (1 : Int32)) (.int (2 : Int32)) (.int (1 : Int32)))) :: (sl, (IA Z .int xs')) :: (rv, (IA Z .int (1 :: List.replicate 15 0))) :: (va, (IA Z .int (a :: b :: List.replicate 14 0))) :: (le, (LA Z ((0 : Int64) :: (0 : Int64) :: List.replicate 14 0))) :: (ss, (IA Z .byte (4 :: 3 :: List.replicate 14 0))) :: (il, (ShAL Z (.int (0 : Int32)) dv (.int (0 : Int32)))) :: F)) := by
  refine Sp.of (ls := #[.val (.ref t), .val (.int (1 : Int32)), .unset, .unset, .unset, .unset, .unset]) pn_mRem50 (fun m => by first | (simp [entryFrame, mkF, argsToLocals, Value.category]; done) | rfl) ?_
  show W _ _ _ _ _ _ 0 0 ((t, (ShTS Z (.ref sl) (.ref ix) (.ref il) (.ref rv) (.int (1 : Int32)) (.ref va) (.ref le) (.ref ss) (.int (1 : Int32)) (.int (2 : Int32)) .null (.int (0 : Int32)) (.int (2 : Int32)) (.int (1 : Int32)))) :: (sl, (IA Z .int xs)) :: (rv, (IA Z .int (List.replicate 16 0))) :: (va, (IA Z .int (a :: b :: List.replicate 14 0))) :: (le, (LA Z ((0 : Int64) :: (0 : Int64) :: List.replicate 14 0))) :: (ss, (IA Z .byte (4 :: List.replicate 15 0))) :: (il, (ShAL Z (.int (0 : Int32)) dv (.int (0 : Int32)))) :: F) 0 #[.val (.ref t), .val (.int (1 : Int32)), .unset, .unset, .unset, .unset, .unset] []
  have la := own_s_lt a
  have lb := own_s_lt b
  refine W.aloadN d16_0 (pc' := 1) rfl rfl rfl ?_
  refine W.getF 0 0 d16_1 (host := "") (Or.inl (wd hw 10 rfl)) Via.refl rfl rfl (pc' := 4) rfl ?_
  refine W.len 1 (32 : Int32) d16_4 rfl (by rw [hlx]; rfl) (pc' := 5) rfl ?_
  refine W.iconst (1 : Int32) d16_5 (pc' := 6) rfl rfl ?_
  refine W.isub d16_6 (pc' := 7) rfl ?_
  refine W.topI (31 : Int32) (by decide) ?_
  refine W.istoreN #[.val (.ref t), .val (.int (1 : Int32)), .val (.int (31 : Int32)), .unset, .unset, .unset, .unset] d16_7 (pc' := 8) rfl rfl ?_
  refine W.aloadN d16_8 (pc' := 9) rfl rfl rfl ?_
  refine W.aloadN d16_9 (pc' := 10) rfl rfl rfl ?_
  refine W.getF 0 5 d16_10 (host := "") (Or.inl (wd hw 60 rfl)) Via.refl rfl rfl (pc' := 13) rfl ?_
  refine W.iloadN d16_13 (pc' := 14) rfl rfl ?_
  refine W.aloadN d16_14 (pc' := 15) rfl rfl rfl ?_
  refine W.getF 0 4 d16_15 (host := "") (Or.inl (wd hw 58 rfl)) Via.refl rfl rfl (pc' := 18) rfl ?_
  refine W.imul d16_18 (pc' := 19) rfl ?_
  refine W.topI (1 : Int32) (by decide) ?_
  refine W.pulls ((t, (ShTS Z (.ref sl) (.ref ix) (.ref il) (.ref rv) (.int (1 : Int32)) (.ref va) (.ref le) (.ref ss) (.int (1 : Int32)) (.int (2 : Int32)) .null (.int (0 : Int32)) (.int (2 : Int32)) (.int (1 : Int32)))) :: (va, (IA Z .int (a :: b :: List.replicate 14 0))) :: (sl, (IA Z .int xs)) :: (rv, (IA Z .int (List.replicate 16 0))) :: (le, (LA Z ((0 : Int64) :: (0 : Int64) :: List.replicate 14 0))) :: (ss, (IA Z .byte (4 :: List.replicate 15 0))) :: (il, (ShAL Z (.int (0 : Int32)) dv (.int (0 : Int32)))) :: F) [3, 1] rfl ?_
  refine W.callP 0 rfl (mHash1 l Z n0 a0 hw ((sl, (IA Z .int xs)) :: (rv, (IA Z .int (List.replicate 16 0))) :: (le, (LA Z ((0 : Int64) :: (0 : Int64) :: List.replicate 14 0))) :: (ss, (IA Z .byte (4 :: List.replicate 15 0))) :: (il, (ShAL Z (.int (0 : Int32)) dv (.int (0 : Int32)))) :: F) t va (.ref sl) (.ref ix) (.ref il) (.ref rv) (.ref va) (.ref le) (.ref ss) (.int (1 : Int32)) (.int (2 : Int32)) .null (.int (0 : Int32)) (.int (2 : Int32)) (.int (1 : Int32)) (a :: b :: List.replicate 14 0) b rfl) d16_19 (wd hw 80 rfl) (wd hw 81 rfl) (wd hw 82 rfl) (wd hw 1 rfl) (wd hw 2 rfl) (wd hw 83 rfl) (by decide) pd6 rfl rfl (Nat.le_of_ble_eq_true rfl) (Nat.le_of_ble_eq_true rfl) (Nat.le_of_ble_eq_true rfl) (Nat.le_of_ble_eq_true rfl) rfl (pc' := 22) rfl ?_
  intro v9 s9 q9
  rw [q9.1, q9.2]
  clear q9 v9 s9
  show W _ _ _ _ _ _ 0 0 ((t, (ShTS Z (.ref sl) (.ref ix) (.ref il) (.ref rv) (.int (1 : Int32)) (.ref va) (.ref le) (.ref ss) (.int (1 : Int32)) (.int (2 : Int32)) .null (.int (0 : Int32)) (.int (2 : Int32)) (.int (1 : Int32)))) :: (va, (IA Z .int (a :: b :: List.replicate 14 0))) :: (sl, (IA Z .int xs)) :: (rv, (IA Z .int (List.replicate 16 0))) :: (le, (LA Z ((0 : Int64) :: (0 : Int64) :: List.replicate 14 0))) :: (ss, (IA Z .byte (4 :: List.replicate 15 0))) :: (il, (ShAL Z (.int (0 : Int32)) dv (.int (0 : Int32)))) :: F) 22 #[.val (.ref t), .val (.int (1 : Int32)), .val (.int (31 : Int32)), .unset, .unset, .unset, .unset] [(.int (own_h b))]
  refine W.iloadN d16_22 (pc' := 23) rfl rfl ?_
  refine W.iand d16_23 (pc' := 24) rfl ?_
  refine W.topI (Int32.ofNat (own_s b)) (own_slot b) ?_
  refine W.pulls ((t, (ShTS Z (.ref sl) (.ref ix) (.ref il) (.ref rv) (.int (1 : Int32)) (.ref va) (.ref le) (.ref ss) (.int (1 : Int32)) (.int (2 : Int32)) .null (.int (0 : Int32)) (.int (2 : Int32)) (.int (1 : Int32)))) :: (sl, (IA Z .int xs)) :: (rv, (IA Z .int (List.replicate 16 0))) :: (va, (IA Z .int (a :: b :: List.replicate 14 0))) :: (le, (LA Z ((0 : Int64) :: (0 : Int64) :: List.replicate 14 0))) :: (ss, (IA Z .byte (4 :: List.replicate 15 0))) :: (il, (ShAL Z (.int (0 : Int32)) dv (.int (0 : Int32)))) :: F) [3, 3, 2] rfl ?_
  refine W.istoreN #[.val (.ref t), .val (.int (1 : Int32)), .val (.int (31 : Int32)), .val (.int (Int32.ofNat (own_s b))), .unset, .unset, .unset] d16_24 (pc' := 25) rfl rfl ?_
  refine W.aloadN d16_25 (pc' := 26) rfl rfl rfl ?_
  refine W.getF 0 0 d16_26 (host := "") (Or.inl (wd hw 10 rfl)) Via.refl rfl rfl (pc' := 29) rfl ?_
  refine W.iloadN d16_29 (pc' := 30) rfl rfl ?_
  refine W.iaload 1 (own_s b) (x := 2) d16_30 rfl (own_nn (by omega)) (own_tn (by omega)) h2 (pc' := 31) rfl ?_
  refine W.iloadN d16_31 (pc' := 32) rfl rfl ?_
  refine W.iconst (1 : Int32) d16_32 (pc' := 33) rfl rfl ?_
  refine W.iadd d16_33 (pc' := 34) rfl ?_
  refine W.topI (2 : Int32) (by decide) ?_
  refine W.icmpY d16_34 (by decide) (by decide) (pc' := 46) rfl ?_
  refine W.iloadN d16_46 (pc' := 47) rfl rfl ?_
  refine W.istore #[.val (.ref t), .val (.int (1 : Int32)), .val (.int (31 : Int32)), .val (.int (Int32.ofNat (own_s b))), .val (.int (Int32.ofNat (own_s b))), .unset, .unset] d16_47 (pc' := 49) rfl rfl ?_
  refine W.iload d16_49 (pc' := 51) rfl rfl ?_
  refine W.iconst (1 : Int32) d16_51 (pc' := 52) rfl rfl ?_
  refine W.iadd d16_52 (pc' := 53) rfl ?_
  refine W.iloadN d16_53 (pc' := 54) rfl rfl ?_
  refine W.iand d16_54 (pc' := 55) rfl ?_
  refine W.topI (Int32.ofNat ((own_s b + 1) % 32)) (own_inc (p := own_s b) (by omega)) ?_
  refine W.istore #[.val (.ref t), .val (.int (1 : Int32)), .val (.int (31 : Int32)), .val (.int (Int32.ofNat (own_s b))), .val (.int (Int32.ofNat (own_s b))), .val (.int (Int32.ofNat ((own_s b + 1) % 32))), .unset] d16_55 (pc' := 57) rfl rfl ?_
  refine W.aloadN d16_57 (pc' := 58) rfl rfl rfl ?_
  refine W.getF 0 0 d16_58 (host := "") (Or.inl (wd hw 10 rfl)) Via.refl rfl rfl (pc' := 61) rfl ?_
  refine W.iload d16_61 (pc' := 63) rfl rfl ?_
  refine W.iaload 1 ((own_s b + 1) % 32) (x := 0) d16_63 rfl (own_nn (by omega)) (own_tn (by omega)) h3 (pc' := 64) rfl ?_
  refine W.ifY d16_64 (by decide) (by decide) (pc' := 139) rfl ?_
  exact remT49 l Z n0 a0 hw F dv hdr t sl ix il rv va le ss a b xs (fun _ => True) (own_s b) _ _ _ hlx (by omega) trivial
theorem pn_mBC51 : plainFor (⟨"com/example/mendb/mendb/TupleStore", "beginCommit", "()V"⟩ : MethodName) = true := by first | (refine plainFor_of_name ?_; simp [plainName, overriddenIn]; done) | (refine plainFor_of_name ?_; decide +kernel) | decide +kernel
set_option maxRecDepth 65536 in
set_option maxHeartbeats 40000000 in
theorem mBC51 (l : Launch) (Z : State) (n0 : Nat) (a0 : Array Value) (hw : ∀ d ∈ tables_1, d.before a0 Z = true) (F : Asn) (dv : Value) (hdr : dv.isRef = true) (t sl ix il rv va le ss : Addr) (a b : Int32) (xs : List Int32) : Sp l Z n0 (⟨"com/example/mendb/mendb/TupleStore", "beginCommit", "()V"⟩ : MethodName) prog_126_method_26_code 2 none ({ frames := 0, cells := 0, slots := 0, locals := 0 } : Room) [(.ref t)] ((t, (ShTS Z (.ref sl) (.ref ix) (.ref il) (.ref rv) (.int (1 : Int32)) (.ref va) (.ref le) (.ref ss) (.int (0 : Int32)) (.int (2 : Int32)) .null (.int (1 : Int32)) (.int (2 : Int32)) (.int (1 : Int32)))) :: (sl, (IA Z .int xs)) :: (rv, (IA Z .int (1 :: List.replicate 15 0))) :: (va, (IA Z .int (a :: b :: List.replicate 14 0))) :: (le, (LA Z ((0 : Int64) :: (0 : Int64) :: List.replicate 14 0))) :: (ss, (IA Z .byte (4 :: 3 :: List.replicate 14 0))) :: (il, (ShAL Z (.int (0 : Int32)) dv (.int (0 : Int32)))) :: F) (Ret none ((t, (ShTS Z (.ref sl) (.ref ix) (.ref il) (.ref rv) (.int (1 : Int32)) (.ref va) (.ref le) (.ref ss) (.int (0 : Int32)) (.int (2 : Int32)) .null (.int (0 : Int32)) (.int (2 : Int32)) (.int (0 : Int32)))) :: (sl, (IA Z .int xs)) :: (rv, (IA Z .int (1 :: List.replicate 15 0))) :: (va, (IA Z .int (a :: b :: List.replicate 14 0))) :: (le, (LA Z ((0 : Int64) :: (0 : Int64) :: List.replicate 14 0))) :: (ss, (IA Z .byte (4 :: 4 :: List.replicate 14 0))) :: (il, (ShAL Z (.int (0 : Int32)) dv (.int (0 : Int32)))) :: F)) := by
  refine Sp.of (ls := #[.val (.ref t), .unset]) pn_mBC51 (fun m => by first | (simp [entryFrame, mkF, argsToLocals, Value.category]; done) | rfl) ?_
  show W _ _ _ _ _ _ 0 0 ((t, (ShTS Z (.ref sl) (.ref ix) (.ref il) (.ref rv) (.int (1 : Int32)) (.ref va) (.ref le) (.ref ss) (.int (0 : Int32)) (.int (2 : Int32)) .null (.int (1 : Int32)) (.int (2 : Int32)) (.int (1 : Int32)))) :: (sl, (IA Z .int xs)) :: (rv, (IA Z .int (1 :: List.replicate 15 0))) :: (va, (IA Z .int (a :: b :: List.replicate 14 0))) :: (le, (LA Z ((0 : Int64) :: (0 : Int64) :: List.replicate 14 0))) :: (ss, (IA Z .byte (4 :: 3 :: List.replicate 14 0))) :: (il, (ShAL Z (.int (0 : Int32)) dv (.int (0 : Int32)))) :: F) 0 #[.val (.ref t), .unset] []
  refine W.iconst (0 : Int32) d17_0 (pc' := 1) rfl rfl ?_
  refine W.istoreN #[.val (.ref t), .val (.int (0 : Int32))] d17_1 (pc' := 2) rfl rfl ?_
  refine W.iloadN d17_2 (pc' := 3) rfl rfl ?_
  refine W.aloadN d17_3 (pc' := 4) rfl rfl rfl ?_
  refine W.getF 0 11 d17_4 (host := "") (Or.inl (wd hw 144 rfl)) Via.refl rfl rfl (pc' := 7) rfl ?_
  refine W.icmpN d17_7 (by decide) (pc' := 10) rfl ?_
  refine W.aloadN d17_10 (pc' := 11) rfl rfl rfl ?_
  refine W.getF 0 7 d17_11 (host := "") (Or.inl (wd hw 66 rfl)) Via.refl rfl rfl (pc' := 14) rfl ?_
  refine W.aloadN d17_14 (pc' := 15) rfl rfl rfl ?_
  refine W.getF 0 3 d17_15 (host := "") (Or.inl (wd hw 56 rfl)) Via.refl rfl rfl (pc' := 18) rfl ?_
  refine W.iloadN d17_18 (pc' := 19) rfl rfl ?_
  refine W.iaload 2 0 (x := 1) d17_19 rfl (by decide) rfl rfl (pc' := 20) rfl ?_
  refine W.iconst (4 : Int32) d17_20 (pc' := 21) rfl rfl ?_
  refine W.bastore ((t, (ShTS Z (.ref sl) (.ref ix) (.ref il) (.ref rv) (.int (1 : Int32)) (.ref va) (.ref le) (.ref ss) (.int (0 : Int32)) (.int (2 : Int32)) .null (.int (1 : Int32)) (.int (2 : Int32)) (.int (1 : Int32)))) :: (sl, (IA Z .int xs)) :: (rv, (IA Z .int (1 :: List.replicate 15 0))) :: (va, (IA Z .int (a :: b :: List.replicate 14 0))) :: (le, (LA Z ((0 : Int64) :: (0 : Int64) :: List.replicate 14 0))) :: (ss, (IA Z .byte (4 :: 4 :: List.replicate 14 0))) :: (il, (ShAL Z (.int (0 : Int32)) dv (.int (0 : Int32)))) :: F) 5 1 d17_21 rfl (by decide) rfl (Nat.le_of_ble_eq_true rfl) rfl (pc' := 22) rfl ?_
  refine W.iinc #[.val (.ref t), .val (.int (1 : Int32))] (1 : Int32) (1 : Int32) d17_22 (pc' := 25) rfl rfl rfl (by decide) rfl ?_
  refine W.goto d17_25 (pc' := 2) (by decide) rfl ?_
  refine W.iloadN d17_2 (pc' := 3) rfl rfl ?_
  refine W.aloadN d17_3 (pc' := 4) rfl rfl rfl ?_
  refine W.getF 0 11 d17_4 (host := "") (Or.inl (wd hw 144 rfl)) Via.refl rfl rfl (pc' := 7) rfl ?_
  refine W.icmpY d17_7 (by decide) (by decide) (pc' := 28) rfl ?_
  refine W.aloadN d17_28 (pc' := 29) rfl rfl rfl ?_
  refine W.aloadN d17_29 (pc' := 30) rfl rfl rfl ?_
  refine W.getF 0 9 d17_30 (host := "") (Or.inl (wd hw 93 rfl)) Via.refl rfl rfl (pc' := 33) rfl ?_
  refine W.putF ((t, (ShTS Z (.ref sl) (.ref ix) (.ref il) (.ref rv) (.int (1 : Int32)) (.ref va) (.ref le) (.ref ss) (.int (0 : Int32)) (.int (2 : Int32)) .null (.int (1 : Int32)) (.int (2 : Int32)) (.int (1 : Int32)))) :: (sl, (IA Z .int xs)) :: (rv, (IA Z .int (1 :: List.replicate 15 0))) :: (va, (IA Z .int (a :: b :: List.replicate 14 0))) :: (le, (LA Z ((0 : Int64) :: (0 : Int64) :: List.replicate 14 0))) :: (ss, (IA Z .byte (4 :: 4 :: List.replicate 14 0))) :: (il, (ShAL Z (.int (0 : Int32)) dv (.int (0 : Int32)))) :: F) 0 12 d17_33 (host := "") (Or.inl (wd hw 151 rfl)) Via.refl (Or.inl (wd hw 152 rfl)) (wd hw 1 rfl) (ty := .int) (by decide) rfl rfl rfl rfl rfl (pc' := 36) rfl ?_
  refine W.aloadN d17_36 (pc' := 37) rfl rfl rfl ?_
  refine W.iconst (0 : Int32) d17_37 (pc' := 38) rfl rfl ?_
  refine W.putF ((t, (ShTS Z (.ref sl) (.ref ix) (.ref il) (.ref rv) (.int (1 : Int32)) (.ref va) (.ref le) (.ref ss) (.int (0 : Int32)) (.int (2 : Int32)) .null (.int (0 : Int32)) (.int (2 : Int32)) (.int (1 : Int32)))) :: (sl, (IA Z .int xs)) :: (rv, (IA Z .int (1 :: List.replicate 15 0))) :: (va, (IA Z .int (a :: b :: List.replicate 14 0))) :: (le, (LA Z ((0 : Int64) :: (0 : Int64) :: List.replicate 14 0))) :: (ss, (IA Z .byte (4 :: 4 :: List.replicate 14 0))) :: (il, (ShAL Z (.int (0 : Int32)) dv (.int (0 : Int32)))) :: F) 0 11 d17_38 (host := "") (Or.inl (wd hw 144 rfl)) Via.refl (Or.inl (wd hw 145 rfl)) (wd hw 1 rfl) (ty := .int) (by decide) rfl rfl rfl rfl rfl (pc' := 41) rfl ?_
  refine W.aloadN d17_41 (pc' := 42) rfl rfl rfl ?_
  refine W.aloadN d17_42 (pc' := 43) rfl rfl rfl ?_
  refine W.getF 0 8 d17_43 (host := "") (Or.inl (wd hw 78 rfl)) Via.refl rfl rfl (pc' := 46) rfl ?_
  refine W.putF ((t, (ShTS Z (.ref sl) (.ref ix) (.ref il) (.ref rv) (.int (1 : Int32)) (.ref va) (.ref le) (.ref ss) (.int (0 : Int32)) (.int (2 : Int32)) .null (.int (0 : Int32)) (.int (2 : Int32)) (.int (0 : Int32)))) :: (sl, (IA Z .int xs)) :: (rv, (IA Z .int (1 :: List.replicate 15 0))) :: (va, (IA Z .int (a :: b :: List.replicate 14 0))) :: (le, (LA Z ((0 : Int64) :: (0 : Int64) :: List.replicate 14 0))) :: (ss, (IA Z .byte (4 :: 4 :: List.replicate 14 0))) :: (il, (ShAL Z (.int (0 : Int32)) dv (.int (0 : Int32)))) :: F) 0 13 d17_46 (host := "") (Or.inl (wd hw 153 rfl)) Via.refl (Or.inl (wd hw 154 rfl)) (wd hw 1 rfl) (ty := .int) (by decide) rfl rfl rfl rfl rfl (pc' := 49) rfl ?_
  exact W.retV d17_49 rfl (by decide) (by decide) ⟨rfl, rfl⟩
theorem pn_mG52 : plainFor (⟨"com/example/mendb/mendb/TupleStore", "state", "(I)B"⟩ : MethodName) = true := by first | (refine plainFor_of_name ?_; simp [plainName, overriddenIn]; done) | (refine plainFor_of_name ?_; decide +kernel) | decide +kernel
set_option maxRecDepth 65536 in
set_option maxHeartbeats 40000000 in
theorem mG52 (l : Launch) (Z : State) (n0 : Nat) (a0 : Array Value) (hw : ∀ d ∈ tables_1, d.before a0 Z = true) (F : Asn) (dv : Value) (hdr : dv.isRef = true) (t sl ix il rv va le ss : Addr) (a b : Int32) (xs : List Int32) : Sp l Z n0 (⟨"com/example/mendb/mendb/TupleStore", "state", "(I)B"⟩ : MethodName) prog_126_method_14_code 2 (some .byte) ({ frames := 0, cells := 0, slots := 0, locals := 0 } : Room) [(.ref t), (.int (0 : Int32))] ((t, (ShTS Z (.ref sl) (.ref ix) (.ref il) (.ref rv) (.int (1 : Int32)) (.ref va) (.ref le) (.ref ss) (.int (0 : Int32)) (.int (2 : Int32)) .null (.int (0 : Int32)) (.int (2 : Int32)) (.int (0 : Int32)))) :: (sl, (IA Z .int xs)) :: (rv, (IA Z .int (1 :: List.replicate 15 0))) :: (va, (IA Z .int (a :: b :: List.replicate 14 0))) :: (le, (LA Z ((0 : Int64) :: (0 : Int64) :: List.replicate 14 0))) :: (ss, (IA Z .byte (4 :: 4 :: List.replicate 14 0))) :: (il, (ShAL Z (.int (0 : Int32)) dv (.int (0 : Int32)))) :: F) (Ret (some (.int 4)) ((t, (ShTS Z (.ref sl) (.ref ix) (.ref il) (.ref rv) (.int (1 : Int32)) (.ref va) (.ref le) (.ref ss) (.int (0 : Int32)) (.int (2 : Int32)) .null (.int (0 : Int32)) (.int (2 : Int32)) (.int (0 : Int32)))) :: (sl, (IA Z .int xs)) :: (rv, (IA Z .int (1 :: List.replicate 15 0))) :: (va, (IA Z .int (a :: b :: List.replicate 14 0))) :: (le, (LA Z ((0 : Int64) :: (0 : Int64) :: List.replicate 14 0))) :: (ss, (IA Z .byte (4 :: 4 :: List.replicate 14 0))) :: (il, (ShAL Z (.int (0 : Int32)) dv (.int (0 : Int32)))) :: F)) := by
  refine Sp.of (ls := #[.val (.ref t), .val (.int (0 : Int32))]) pn_mG52 (fun m => by first | (simp [entryFrame, mkF, argsToLocals, Value.category]; done) | rfl) ?_
  show W _ _ _ _ _ _ 0 0 ((t, (ShTS Z (.ref sl) (.ref ix) (.ref il) (.ref rv) (.int (1 : Int32)) (.ref va) (.ref le) (.ref ss) (.int (0 : Int32)) (.int (2 : Int32)) .null (.int (0 : Int32)) (.int (2 : Int32)) (.int (0 : Int32)))) :: (sl, (IA Z .int xs)) :: (rv, (IA Z .int (1 :: List.replicate 15 0))) :: (va, (IA Z .int (a :: b :: List.replicate 14 0))) :: (le, (LA Z ((0 : Int64) :: (0 : Int64) :: List.replicate 14 0))) :: (ss, (IA Z .byte (4 :: 4 :: List.replicate 14 0))) :: (il, (ShAL Z (.int (0 : Int32)) dv (.int (0 : Int32)))) :: F) 0 #[.val (.ref t), .val (.int (0 : Int32))] []
  refine W.aloadN d18_0 (pc' := 1) rfl rfl rfl ?_
  refine W.getF 0 7 d18_1 (host := "") (Or.inl (wd hw 66 rfl)) Via.refl rfl rfl (pc' := 4) rfl ?_
  refine W.iloadN d18_4 (pc' := 5) rfl rfl ?_
  refine W.baload 5 0 (x := 4) d18_5 rfl (by decide) rfl rfl (pc' := 6) rfl ?_
  exact W.retN (t := .byte) 4 d18_6 rfl (by simp) rfl (by decide) (by decide) ⟨rfl, rfl⟩
theorem pn_mG53 : plainFor (⟨"com/example/mendb/mendb/TupleStore", "state", "(I)B"⟩ : MethodName) = true := by first | (refine plainFor_of_name ?_; simp [plainName, overriddenIn]; done) | (refine plainFor_of_name ?_; decide +kernel) | decide +kernel
set_option maxRecDepth 65536 in
set_option maxHeartbeats 40000000 in
theorem mG53 (l : Launch) (Z : State) (n0 : Nat) (a0 : Array Value) (hw : ∀ d ∈ tables_1, d.before a0 Z = true) (F : Asn) (dv : Value) (hdr : dv.isRef = true) (t sl ix il rv va le ss : Addr) (a b : Int32) (xs : List Int32) : Sp l Z n0 (⟨"com/example/mendb/mendb/TupleStore", "state", "(I)B"⟩ : MethodName) prog_126_method_14_code 2 (some .byte) ({ frames := 0, cells := 0, slots := 0, locals := 0 } : Room) [(.ref t), (.int (1 : Int32))] ((t, (ShTS Z (.ref sl) (.ref ix) (.ref il) (.ref rv) (.int (1 : Int32)) (.ref va) (.ref le) (.ref ss) (.int (0 : Int32)) (.int (2 : Int32)) .null (.int (0 : Int32)) (.int (2 : Int32)) (.int (0 : Int32)))) :: (sl, (IA Z .int xs)) :: (rv, (IA Z .int (1 :: List.replicate 15 0))) :: (va, (IA Z .int (a :: b :: List.replicate 14 0))) :: (le, (LA Z ((0 : Int64) :: (0 : Int64) :: List.replicate 14 0))) :: (ss, (IA Z .byte (4 :: 4 :: List.replicate 14 0))) :: (il, (ShAL Z (.int (0 : Int32)) dv (.int (0 : Int32)))) :: F) (Ret (some (.int 4)) ((t, (ShTS Z (.ref sl) (.ref ix) (.ref il) (.ref rv) (.int (1 : Int32)) (.ref va) (.ref le) (.ref ss) (.int (0 : Int32)) (.int (2 : Int32)) .null (.int (0 : Int32)) (.int (2 : Int32)) (.int (0 : Int32)))) :: (sl, (IA Z .int xs)) :: (rv, (IA Z .int (1 :: List.replicate 15 0))) :: (va, (IA Z .int (a :: b :: List.replicate 14 0))) :: (le, (LA Z ((0 : Int64) :: (0 : Int64) :: List.replicate 14 0))) :: (ss, (IA Z .byte (4 :: 4 :: List.replicate 14 0))) :: (il, (ShAL Z (.int (0 : Int32)) dv (.int (0 : Int32)))) :: F)) := by
  refine Sp.of (ls := #[.val (.ref t), .val (.int (1 : Int32))]) pn_mG53 (fun m => by first | (simp [entryFrame, mkF, argsToLocals, Value.category]; done) | rfl) ?_
  show W _ _ _ _ _ _ 0 0 ((t, (ShTS Z (.ref sl) (.ref ix) (.ref il) (.ref rv) (.int (1 : Int32)) (.ref va) (.ref le) (.ref ss) (.int (0 : Int32)) (.int (2 : Int32)) .null (.int (0 : Int32)) (.int (2 : Int32)) (.int (0 : Int32)))) :: (sl, (IA Z .int xs)) :: (rv, (IA Z .int (1 :: List.replicate 15 0))) :: (va, (IA Z .int (a :: b :: List.replicate 14 0))) :: (le, (LA Z ((0 : Int64) :: (0 : Int64) :: List.replicate 14 0))) :: (ss, (IA Z .byte (4 :: 4 :: List.replicate 14 0))) :: (il, (ShAL Z (.int (0 : Int32)) dv (.int (0 : Int32)))) :: F) 0 #[.val (.ref t), .val (.int (1 : Int32))] []
  refine W.aloadN d18_0 (pc' := 1) rfl rfl rfl ?_
  refine W.getF 0 7 d18_1 (host := "") (Or.inl (wd hw 66 rfl)) Via.refl rfl rfl (pc' := 4) rfl ?_
  refine W.iloadN d18_4 (pc' := 5) rfl rfl ?_
  refine W.baload 5 1 (x := 4) d18_5 rfl (by decide) rfl rfl (pc' := 6) rfl ?_
  exact W.retN (t := .byte) 4 d18_6 rfl (by simp) rfl (by decide) (by decide) ⟨rfl, rfl⟩
theorem pn_mG54 : plainFor (⟨"com/example/mendb/mendb/TupleStore", "firstAdded", "()I"⟩ : MethodName) = true := by first | (refine plainFor_of_name ?_; simp [plainName, overriddenIn]; done) | (refine plainFor_of_name ?_; decide +kernel) | decide +kernel
set_option maxRecDepth 65536 in
set_option maxHeartbeats 40000000 in
theorem mG54 (l : Launch) (Z : State) (n0 : Nat) (a0 : Array Value) (hw : ∀ d ∈ tables_1, d.before a0 Z = true) (F : Asn) (dv : Value) (hdr : dv.isRef = true) (t sl ix il rv va le ss : Addr) (a b : Int32) (xs : List Int32) : Sp l Z n0 (⟨"com/example/mendb/mendb/TupleStore", "firstAdded", "()I"⟩ : MethodName) prog_126_method_27_code 1 (some .int) ({ frames := 0, cells := 0, slots := 0, locals := 0 } : Room) [(.ref t)] ((t, (ShTS Z (.ref sl) (.ref ix) (.ref il) (.ref rv) (.int (1 : Int32)) (.ref va) (.ref le) (.ref ss) (.int (0 : Int32)) (.int (2 : Int32)) .null (.int (0 : Int32)) (.int (2 : Int32)) (.int (0 : Int32)))) :: (sl, (IA Z .int xs)) :: (rv, (IA Z .int (1 :: List.replicate 15 0))) :: (va, (IA Z .int (a :: b :: List.replicate 14 0))) :: (le, (LA Z ((0 : Int64) :: (0 : Int64) :: List.replicate 14 0))) :: (ss, (IA Z .byte (4 :: 4 :: List.replicate 14 0))) :: (il, (ShAL Z (.int (0 : Int32)) dv (.int (0 : Int32)))) :: F) (Ret (some (.int 2)) ((t, (ShTS Z (.ref sl) (.ref ix) (.ref il) (.ref rv) (.int (1 : Int32)) (.ref va) (.ref le) (.ref ss) (.int (0 : Int32)) (.int (2 : Int32)) .null (.int (0 : Int32)) (.int (2 : Int32)) (.int (0 : Int32)))) :: (sl, (IA Z .int xs)) :: (rv, (IA Z .int (1 :: List.replicate 15 0))) :: (va, (IA Z .int (a :: b :: List.replicate 14 0))) :: (le, (LA Z ((0 : Int64) :: (0 : Int64) :: List.replicate 14 0))) :: (ss, (IA Z .byte (4 :: 4 :: List.replicate 14 0))) :: (il, (ShAL Z (.int (0 : Int32)) dv (.int (0 : Int32)))) :: F)) := by
  refine Sp.of (ls := #[.val (.ref t)]) pn_mG54 (fun m => by first | (simp [entryFrame, mkF, argsToLocals, Value.category]; done) | rfl) ?_
  show W _ _ _ _ _ _ 0 0 ((t, (ShTS Z (.ref sl) (.ref ix) (.ref il) (.ref rv) (.int (1 : Int32)) (.ref va) (.ref le) (.ref ss) (.int (0 : Int32)) (.int (2 : Int32)) .null (.int (0 : Int32)) (.int (2 : Int32)) (.int (0 : Int32)))) :: (sl, (IA Z .int xs)) :: (rv, (IA Z .int (1 :: List.replicate 15 0))) :: (va, (IA Z .int (a :: b :: List.replicate 14 0))) :: (le, (LA Z ((0 : Int64) :: (0 : Int64) :: List.replicate 14 0))) :: (ss, (IA Z .byte (4 :: 4 :: List.replicate 14 0))) :: (il, (ShAL Z (.int (0 : Int32)) dv (.int (0 : Int32)))) :: F) 0 #[.val (.ref t)] []
  refine W.aloadN d19_0 (pc' := 1) rfl rfl rfl ?_
  refine W.getF 0 12 d19_1 (host := "") (Or.inl (wd hw 151 rfl)) Via.refl rfl rfl (pc' := 4) rfl ?_
  exact W.retI d19_4 rfl (by decide) (by decide) ⟨rfl, rfl⟩
theorem pn_mG55 : plainFor (⟨"com/example/mendb/mendb/TupleStore", "removedCount", "()I"⟩ : MethodName) = true := by first | (refine plainFor_of_name ?_; simp [plainName, overriddenIn]; done) | (refine plainFor_of_name ?_; decide +kernel) | decide +kernel
set_option maxRecDepth 65536 in
set_option maxHeartbeats 40000000 in
theorem mG55 (l : Launch) (Z : State) (n0 : Nat) (a0 : Array Value) (hw : ∀ d ∈ tables_1, d.before a0 Z = true) (F : Asn) (dv : Value) (hdr : dv.isRef = true) (t sl ix il rv va le ss : Addr) (a b : Int32) (xs : List Int32) : Sp l Z n0 (⟨"com/example/mendb/mendb/TupleStore", "removedCount", "()I"⟩ : MethodName) prog_126_method_28_code 1 (some .int) ({ frames := 0, cells := 0, slots := 0, locals := 0 } : Room) [(.ref t)] ((t, (ShTS Z (.ref sl) (.ref ix) (.ref il) (.ref rv) (.int (1 : Int32)) (.ref va) (.ref le) (.ref ss) (.int (0 : Int32)) (.int (2 : Int32)) .null (.int (0 : Int32)) (.int (2 : Int32)) (.int (0 : Int32)))) :: (sl, (IA Z .int xs)) :: (rv, (IA Z .int (1 :: List.replicate 15 0))) :: (va, (IA Z .int (a :: b :: List.replicate 14 0))) :: (le, (LA Z ((0 : Int64) :: (0 : Int64) :: List.replicate 14 0))) :: (ss, (IA Z .byte (4 :: 4 :: List.replicate 14 0))) :: (il, (ShAL Z (.int (0 : Int32)) dv (.int (0 : Int32)))) :: F) (Ret (some (.int 0)) ((t, (ShTS Z (.ref sl) (.ref ix) (.ref il) (.ref rv) (.int (1 : Int32)) (.ref va) (.ref le) (.ref ss) (.int (0 : Int32)) (.int (2 : Int32)) .null (.int (0 : Int32)) (.int (2 : Int32)) (.int (0 : Int32)))) :: (sl, (IA Z .int xs)) :: (rv, (IA Z .int (1 :: List.replicate 15 0))) :: (va, (IA Z .int (a :: b :: List.replicate 14 0))) :: (le, (LA Z ((0 : Int64) :: (0 : Int64) :: List.replicate 14 0))) :: (ss, (IA Z .byte (4 :: 4 :: List.replicate 14 0))) :: (il, (ShAL Z (.int (0 : Int32)) dv (.int (0 : Int32)))) :: F)) := by
  refine Sp.of (ls := #[.val (.ref t)]) pn_mG55 (fun m => by first | (simp [entryFrame, mkF, argsToLocals, Value.category]; done) | rfl) ?_
  show W _ _ _ _ _ _ 0 0 ((t, (ShTS Z (.ref sl) (.ref ix) (.ref il) (.ref rv) (.int (1 : Int32)) (.ref va) (.ref le) (.ref ss) (.int (0 : Int32)) (.int (2 : Int32)) .null (.int (0 : Int32)) (.int (2 : Int32)) (.int (0 : Int32)))) :: (sl, (IA Z .int xs)) :: (rv, (IA Z .int (1 :: List.replicate 15 0))) :: (va, (IA Z .int (a :: b :: List.replicate 14 0))) :: (le, (LA Z ((0 : Int64) :: (0 : Int64) :: List.replicate 14 0))) :: (ss, (IA Z .byte (4 :: 4 :: List.replicate 14 0))) :: (il, (ShAL Z (.int (0 : Int32)) dv (.int (0 : Int32)))) :: F) 0 #[.val (.ref t)] []
  refine W.aloadN d20_0 (pc' := 1) rfl rfl rfl ?_
  refine W.getF 0 11 d20_1 (host := "") (Or.inl (wd hw 144 rfl)) Via.refl rfl rfl (pc' := 4) rfl ?_
  exact W.retI d20_4 rfl (by decide) (by decide) ⟨rfl, rfl⟩
theorem pn_mG56 : plainFor (⟨"com/example/mendb/mendb/TupleStore", "countAtStart", "()I"⟩ : MethodName) = true := by first | (refine plainFor_of_name ?_; simp [plainName, overriddenIn]; done) | (refine plainFor_of_name ?_; decide +kernel) | decide +kernel
set_option maxRecDepth 65536 in
set_option maxHeartbeats 40000000 in
theorem mG56 (l : Launch) (Z : State) (n0 : Nat) (a0 : Array Value) (hw : ∀ d ∈ tables_1, d.before a0 Z = true) (F : Asn) (dv : Value) (hdr : dv.isRef = true) (t sl ix il rv va le ss : Addr) (a b : Int32) (xs : List Int32) : Sp l Z n0 (⟨"com/example/mendb/mendb/TupleStore", "countAtStart", "()I"⟩ : MethodName) prog_126_method_18_code 1 (some .int) ({ frames := 0, cells := 0, slots := 0, locals := 0 } : Room) [(.ref t)] ((t, (ShTS Z (.ref sl) (.ref ix) (.ref il) (.ref rv) (.int (1 : Int32)) (.ref va) (.ref le) (.ref ss) (.int (0 : Int32)) (.int (2 : Int32)) .null (.int (0 : Int32)) (.int (2 : Int32)) (.int (0 : Int32)))) :: (sl, (IA Z .int xs)) :: (rv, (IA Z .int (1 :: List.replicate 15 0))) :: (va, (IA Z .int (a :: b :: List.replicate 14 0))) :: (le, (LA Z ((0 : Int64) :: (0 : Int64) :: List.replicate 14 0))) :: (ss, (IA Z .byte (4 :: 4 :: List.replicate 14 0))) :: (il, (ShAL Z (.int (0 : Int32)) dv (.int (0 : Int32)))) :: F) (Ret (some (.int 0)) ((t, (ShTS Z (.ref sl) (.ref ix) (.ref il) (.ref rv) (.int (1 : Int32)) (.ref va) (.ref le) (.ref ss) (.int (0 : Int32)) (.int (2 : Int32)) .null (.int (0 : Int32)) (.int (2 : Int32)) (.int (0 : Int32)))) :: (sl, (IA Z .int xs)) :: (rv, (IA Z .int (1 :: List.replicate 15 0))) :: (va, (IA Z .int (a :: b :: List.replicate 14 0))) :: (le, (LA Z ((0 : Int64) :: (0 : Int64) :: List.replicate 14 0))) :: (ss, (IA Z .byte (4 :: 4 :: List.replicate 14 0))) :: (il, (ShAL Z (.int (0 : Int32)) dv (.int (0 : Int32)))) :: F)) := by
  refine Sp.of (ls := #[.val (.ref t)]) pn_mG56 (fun m => by first | (simp [entryFrame, mkF, argsToLocals, Value.category]; done) | rfl) ?_
  show W _ _ _ _ _ _ 0 0 ((t, (ShTS Z (.ref sl) (.ref ix) (.ref il) (.ref rv) (.int (1 : Int32)) (.ref va) (.ref le) (.ref ss) (.int (0 : Int32)) (.int (2 : Int32)) .null (.int (0 : Int32)) (.int (2 : Int32)) (.int (0 : Int32)))) :: (sl, (IA Z .int xs)) :: (rv, (IA Z .int (1 :: List.replicate 15 0))) :: (va, (IA Z .int (a :: b :: List.replicate 14 0))) :: (le, (LA Z ((0 : Int64) :: (0 : Int64) :: List.replicate 14 0))) :: (ss, (IA Z .byte (4 :: 4 :: List.replicate 14 0))) :: (il, (ShAL Z (.int (0 : Int32)) dv (.int (0 : Int32)))) :: F) 0 #[.val (.ref t)] []
  refine W.aloadN d21_0 (pc' := 1) rfl rfl rfl ?_
  refine W.getF 0 13 d21_1 (host := "") (Or.inl (wd hw 153 rfl)) Via.refl rfl rfl (pc' := 4) rfl ?_
  exact W.retI d21_4 rfl (by decide) (by decide) ⟨rfl, rfl⟩
theorem pn_m0 : plainFor x = true := by first | (refine plainFor_of_name ?_; simp [plainName, overriddenIn]; done) | (refine plainFor_of_name ?_; decide +kernel) | decide +kernel
set_option maxRecDepth 65536 in
set_option maxHeartbeats 40000000 in
theorem m0 (l : Launch) (Z : State) (n0 : Nat) (a0 : Array Value) (hw : ∀ d ∈ tables_1, d.before a0 Z = true) (dv : Value) (hdr : dv.isRef = true) (hdv : Sta Z Z.heap "java/util/ArrayList" "DEFAULTCAPACITY_EMPTY_ELEMENTDATA" "[Ljava/lang/Object;" dv) (a b flags : Int32) : Sp l Z n0 x code maxLocals ret room_1 [(.int a), (.int b), (.int flags)] [] (fun v _ => v = some (.int 1)) := by
  refine Sp.of (ls := #[.val (.int a), .val (.int b), .val (.int flags), .unset, .unset, .unset, .unset, .unset, .unset, .unset, .unset, .unset, .unset]) pn_m0 (fun m => by first | (simp [entryFrame, mkF, argsToLocals, Value.category, maxLocals]; done) | rfl) ?_
  show W _ _ _ _ _ _ 0 0 [] 0 #[.val (.int a), .val (.int b), .val (.int flags), .unset, .unset, .unset, .unset, .unset, .unset, .unset, .unset, .unset, .unset] []
  refine W.new [("com/example/mendb/mendb/TupleStore", "slots", "[I", .null), ("com/example/mendb/mendb/TupleStore", "indexes", "Ljava/util/Map;", .null), ("com/example/mendb/mendb/TupleStore", "indexList", "Ljava/util/List;", .null), ("com/example/mendb/mendb/TupleStore", "removed", "[I", .null), ("com/example/mendb/mendb/TupleStore", "arity", "I", (.int (0 : Int32))), ("com/example/mendb/mendb/TupleStore", "values", "[I", .null), ("com/example/mendb/mendb/TupleStore", "levels", "[J", .null), ("com/example/mendb/mendb/TupleStore", "states", "[B", .null), ("com/example/mendb/mendb/TupleStore", "count", "I", (.int (0 : Int32))), ("com/example/mendb/mendb/TupleStore", "end", "I", (.int (0 : Int32))), ("com/example/mendb/mendb/TupleStore", "past", "[[J", .null), ("com/example/mendb/mendb/TupleStore", "removedCount", "I", (.int (0 : Int32))), ("com/example/mendb/mendb/TupleStore", "firstAdded", "I", (.int (0 : Int32))), ("com/example/mendb/mendb/TupleStore", "countAtStart", "I", (.int (0 : Int32)))] at_0 (wd hw 0 rfl) (wd hw 1 rfl) (wd hw 2 rfl) ⟨⟨Or.inl (wd hw 11 rfl), (.array .int), by decide, rfl⟩, ⟨Or.inr (wd hw 29 rfl), (.object "java/util/Map"), by decide, rfl⟩, ⟨Or.inr (wd hw 55 rfl), (.object "java/util/List"), by decide, rfl⟩, ⟨Or.inl (wd hw 57 rfl), (.array .int), by decide, rfl⟩, ⟨Or.inr (wd hw 59 rfl), .int, by decide, rfl⟩, ⟨Or.inl (wd hw 61 rfl), (.array .int), by decide, rfl⟩, ⟨Or.inl (wd hw 64 rfl), (.array .long), by decide, rfl⟩, ⟨Or.inl (wd hw 67 rfl), (.array .byte), by decide, rfl⟩, ⟨Or.inl (wd hw 79 rfl), .int, by decide, rfl⟩, ⟨Or.inl (wd hw 94 rfl), .int, by decide, rfl⟩, ⟨Or.inl (wd hw 100 rfl), (.array (.array .long)), by decide, rfl⟩, ⟨Or.inl (wd hw 145 rfl), .int, by decide, rfl⟩, ⟨Or.inl (wd hw 152 rfl), .int, by decide, rfl⟩, ⟨Or.inl (wd hw 154 rfl), .int, by decide, rfl⟩, trivial⟩ (by decide) (by decide) (by decide) (pc' := 3) rfl ?_
  intro t
  show W _ _ _ _ _ _ 1 17 [(t, (ShTS Z .null .null .null .null (.int (0 : Int32)) .null .null .null (.int (0 : Int32)) (.int (0 : Int32)) .null (.int (0 : Int32)) (.int (0 : Int32)) (.int (0 : Int32))))] 3 #[.val (.int a), .val (.int b), .val (.int flags), .unset, .unset, .unset, .unset, .unset, .unset, .unset, .unset, .unset, .unset] [(.ref t)]
  refine W.dup at_3 (pc' := 4) rfl rfl ?_
  refine W.iconst (1 : Int32) at_4 (pc' := 5) rfl rfl ?_
  refine W.callI (mTS l Z n0 a0 hw dv hdr hdv [] t) at_5 rfl (wd hw 3 rfl) (wd hw 4 rfl) (wd hw 2 rfl) (wd hw 5 rfl) (by decide) pd9 rfl rfl (Nat.le_of_ble_eq_true rfl) (Nat.le_of_ble_eq_true rfl) (Nat.le_of_ble_eq_true rfl) (Nat.le_of_ble_eq_true rfl) rfl (pc' := 8) rfl ?_
  rintro _ _ ⟨rfl, sl, ix, il, rv, va, le, ss, rfl⟩
  show W _ _ _ _ _ _ 8 124 [(t, (ShTS Z (.ref sl) (.ref ix) (.ref il) (.ref rv) (.int (1 : Int32)) (.ref va) (.ref le) (.ref ss) (.int (0 : Int32)) (.int (0 : Int32)) .null (.int (0 : Int32)) (.int (0 : Int32)) (.int (0 : Int32)))), (sl, (IA Z .int (List.replicate 32 0))), (rv, (IA Z .int (List.replicate 16 0))), (va, (IA Z .int (List.replicate 16 0))), (le, (LA Z (List.replicate 16 0))), (ss, (IA Z .byte (List.replicate 16 0))), (il, (ShAL Z (.int (0 : Int32)) dv (.int (0 : Int32))))] 8 #[.val (.int a), .val (.int b), .val (.int flags), .unset, .unset, .unset, .unset, .unset, .unset, .unset, .unset, .unset, .unset] [(.ref t)]
  refine W.astoreN #[.val (.int a), .val (.int b), .val (.int flags), .val (.ref t), .unset, .unset, .unset, .unset, .unset, .unset, .unset, .unset, .unset] at_8 (pc' := 9) rfl rfl rfl ?_
  refine W.iconst (1 : Int32) at_9 (pc' := 10) rfl rfl ?_
  refine W.newI 1 1 at_10 (wd hw 9 rfl) rfl (by decide) rfl (by decide) (by decide) (by decide) (by decide) (pc' := 12) rfl ?_
  intro u0
  show W _ _ _ _ _ _ 9 125 [(u0, (IA Z .int [0])), (t, (ShTS Z (.ref sl) (.ref ix) (.ref il) (.ref rv) (.int (1 : Int32)) (.ref va) (.ref le) (.ref ss) (.int (0 : Int32)) (.int (0 : Int32)) .null (.int (0 : Int32)) (.int (0 : Int32)) (.int (0 : Int32)))), (sl, (IA Z .int (List.replicate 32 0))), (rv, (IA Z .int (List.replicate 16 0))), (va, (IA Z .int (List.replicate 16 0))), (le, (LA Z (List.replicate 16 0))), (ss, (IA Z .byte (List.replicate 16 0))), (il, (ShAL Z (.int (0 : Int32)) dv (.int (0 : Int32))))] 12 #[.val (.int a), .val (.int b), .val (.int flags), .val (.ref t), .unset, .unset, .unset, .unset, .unset, .unset, .unset, .unset, .unset] [(.ref u0)]
  refine W.dup at_12 (pc' := 13) rfl rfl ?_
  refine W.iconst (0 : Int32) at_13 (pc' := 14) rfl rfl ?_
  refine W.iloadN at_14 (pc' := 15) rfl rfl ?_
  refine W.iastore [(u0, (IA Z .int [a])), (t, (ShTS Z (.ref sl) (.ref ix) (.ref il) (.ref rv) (.int (1 : Int32)) (.ref va) (.ref le) (.ref ss) (.int (0 : Int32)) (.int (0 : Int32)) .null (.int (0 : Int32)) (.int (0 : Int32)) (.int (0 : Int32)))), (sl, (IA Z .int (List.replicate 32 0))), (rv, (IA Z .int (List.replicate 16 0))), (va, (IA Z .int (List.replicate 16 0))), (le, (LA Z (List.replicate 16 0))), (ss, (IA Z .byte (List.replicate 16 0))), (il, (ShAL Z (.int (0 : Int32)) dv (.int (0 : Int32))))] 0 0 at_15 rfl (by decide) rfl (Nat.le_of_ble_eq_true rfl) rfl (pc' := 16) rfl ?_
  refine W.astore #[.val (.int a), .val (.int b), .val (.int flags), .val (.ref t), .val (.ref u0), .unset, .unset, .unset, .unset, .unset, .unset, .unset, .unset] at_16 (pc' := 18) rfl rfl rfl ?_
  refine W.iconst (1 : Int32) at_18 (pc' := 19) rfl rfl ?_
  refine W.newI 1 1 at_19 (wd hw 9 rfl) rfl (by decide) rfl (by decide) (by decide) (by decide) (by decide) (pc' := 21) rfl ?_
  intro u1
  show W _ _ _ _ _ _ 10 126 [(u1, (IA Z .int [0])), (u0, (IA Z .int [a])), (t, (ShTS Z (.ref sl) (.ref ix) (.ref il) (.ref rv) (.int (1 : Int32)) (.ref va) (.ref le) (.ref ss) (.int (0 : Int32)) (.int (0 : Int32)) .null (.int (0 : Int32)) (.int (0 : Int32)) (.int (0 : Int32)))), (sl, (IA Z .int (List.replicate 32 0))), (rv, (IA Z .int (List.replicate 16 0))), (va, (IA Z .int (List.replicate 16 0))), (le, (LA Z (List.replicate 16 0))), (ss, (IA Z .byte (List.replicate 16 0))), (il, (ShAL Z (.int (0 : Int32)) dv (.int (0 : Int32))))] 21 #[.val (.int a), .val (.int b), .val (.int flags), .val (.ref t), .val (.ref u0), .unset, .unset, .unset, .unset, .unset, .unset, .unset, .unset] [(.ref u1)]
  refine W.dup at_21 (pc' := 22) rfl rfl ?_
  refine W.iconst (0 : Int32) at_22 (pc' := 23) rfl rfl ?_
  refine W.iloadN at_23 (pc' := 24) rfl rfl ?_
  refine W.iastore [(u1, (IA Z .int [b])), (u0, (IA Z .int [a])), (t, (ShTS Z (.ref sl) (.ref ix) (.ref il) (.ref rv) (.int (1 : Int32)) (.ref va) (.ref le) (.ref ss) (.int (0 : Int32)) (.int (0 : Int32)) .null (.int (0 : Int32)) (.int (0 : Int32)) (.int (0 : Int32)))), (sl, (IA Z .int (List.replicate 32 0))), (rv, (IA Z .int (List.replicate 16 0))), (va, (IA Z .int (List.replicate 16 0))), (le, (LA Z (List.replicate 16 0))), (ss, (IA Z .byte (List.replicate 16 0))), (il, (ShAL Z (.int (0 : Int32)) dv (.int (0 : Int32))))] 0 0 at_24 rfl (by decide) rfl (Nat.le_of_ble_eq_true rfl) rfl (pc' := 25) rfl ?_
  refine W.astore #[.val (.int a), .val (.int b), .val (.int flags), .val (.ref t), .val (.ref u0), .val (.ref u1), .unset, .unset, .unset, .unset, .unset, .unset, .unset] at_25 (pc' := 27) rfl rfl rfl ?_
  refine W.aloadN at_27 (pc' := 28) rfl rfl rfl ?_
  refine W.aload at_28 (pc' := 30) rfl rfl rfl ?_
  refine W.pulls [(t, (ShTS Z (.ref sl) (.ref ix) (.ref il) (.ref rv) (.int (1 : Int32)) (.ref va) (.ref le) (.ref ss) (.int (0 : Int32)) (.int (0 : Int32)) .null (.int (0 : Int32)) (.int (0 : Int32)) (.int (0 : Int32)))), (sl, (IA Z .int (List.replicate 32 0))), (rv, (IA Z .int (List.replicate 16 0))), (va, (IA Z .int (List.replicate 16 0))), (le, (LA Z (List.replicate 16 0))), (ss, (IA Z .byte (List.replicate 16 0))), (il, (ShAL Z (.int (0 : Int32)) dv (.int (0 : Int32)))), (u0, (IA Z .int [a])), (u1, (IA Z .int [b]))] [1, 8, 8, 8, 8, 8, 8, 8] rfl ?_
  refine W.callV 0 rfl (mA0 l Z n0 a0 hw [(u1, (IA Z .int [b]))] dv hdr t sl ix il rv va le ss u0 a) at_30 (wd hw 68 rfl) (wd hw 69 rfl) (wd hw 71 rfl) (wd hw 70 rfl) (wd hw 2 rfl) (wd hw 72 rfl) rfl (by decide) pd10 rfl rfl (Nat.le_of_ble_eq_true rfl) (Nat.le_of_ble_eq_true rfl) (Nat.le_of_ble_eq_true rfl) (Nat.le_of_ble_eq_true rfl) rfl (pc' := 33) rfl ?_
  intro v9 s9 q9
  rw [q9.1, q9.2]
  clear q9 v9 s9
  show W _ _ _ _ _ _ 11 130 [(t, (ShTS Z (.ref sl) (.ref ix) (.ref il) (.ref rv) (.int (1 : Int32)) (.ref va) (.ref le) (.ref ss) (.int (1 : Int32)) (.int (1 : Int32)) .null (.int (0 : Int32)) (.int (0 : Int32)) (.int (0 : Int32)))), (sl, (IA Z .int (own_one (own_s a)))), (rv, (IA Z .int (List.replicate 16 0))), (va, (IA Z .int (a :: List.replicate 15 0))), (le, (LA Z ((0 : Int64) :: List.replicate 15 0))), (ss, (IA Z .byte (List.replicate 16 0))), (il, (ShAL Z (.int (0 : Int32)) dv (.int (0 : Int32)))), (u0, (IA Z .int [a])), (u1, (IA Z .int [b]))] 33 #[.val (.int a), .val (.int b), .val (.int flags), .val (.ref t), .val (.ref u0), .val (.ref u1), .unset, .unset, .unset, .unset, .unset, .unset, .unset] [(.int (1 : Int32))]
  refine W.pop at_33 (pc' := 34) rfl rfl ?_
  refine W.aloadN at_34 (pc' := 35) rfl rfl rfl ?_
  refine W.aload at_35 (pc' := 37) rfl rfl rfl ?_
  by_cases hab : a = b
  · refine W.pulls [(t, (ShTS Z (.ref sl) (.ref ix) (.ref il) (.ref rv) (.int (1 : Int32)) (.ref va) (.ref le) (.ref ss) (.int (1 : Int32)) (.int (1 : Int32)) .null (.int (0 : Int32)) (.int (0 : Int32)) (.int (0 : Int32)))), (sl, (IA Z .int (own_one (own_s a)))), (rv, (IA Z .int (List.replicate 16 0))), (va, (IA Z .int (a :: List.replicate 15 0))), (le, (LA Z ((0 : Int64) :: List.replicate 15 0))), (ss, (IA Z .byte (List.replicate 16 0))), (il, (ShAL Z (.int (0 : Int32)) dv (.int (0 : Int32)))), (u1, (IA Z .int [b])), (u0, (IA Z .int [a]))] [8, 7, 7, 7, 7, 7, 7, 7] rfl ?_
    refine W.callV 0 rfl (mAE l Z n0 a0 hw [(u0, (IA Z .int [a]))] dv hdr t sl ix il rv va le ss u1 a b hab) at_37 (wd hw 68 rfl) (wd hw 69 rfl) (wd hw 71 rfl) (wd hw 70 rfl) (wd hw 2 rfl) (wd hw 72 rfl) rfl (by decide) pd10 rfl rfl (Nat.le_of_ble_eq_true rfl) (Nat.le_of_ble_eq_true rfl) (Nat.le_of_ble_eq_true rfl) (Nat.le_of_ble_eq_true rfl) rfl (pc' := 40) rfl ?_
    intro v9 s9 q9
    rw [q9.1, q9.2]
    clear q9 v9 s9
    show W _ _ _ _ _ _ 12 134 [(t, (ShTS Z (.ref sl) (.ref ix) (.ref il) (.ref rv) (.int (1 : Int32)) (.ref va) (.ref le) (.ref ss) (.int (1 : Int32)) (.int (1 : Int32)) .null (.int (0 : Int32)) (.int (0 : Int32)) (.int (0 : Int32)))), (sl, (IA Z .int (own_one (own_s a)))), (rv, (IA Z .int (List.replicate 16 0))), (va, (IA Z .int (a :: List.replicate 15 0))), (le, (LA Z ((0 : Int64) :: List.replicate 15 0))), (ss, (IA Z .byte (List.replicate 16 0))), (il, (ShAL Z (.int (0 : Int32)) dv (.int (0 : Int32)))), (u1, (IA Z .int [b])), (u0, (IA Z .int [a]))] 40 #[.val (.int a), .val (.int b), .val (.int flags), .val (.ref t), .val (.ref u0), .val (.ref u1), .unset, .unset, .unset, .unset, .unset, .unset, .unset] [(.int (0 : Int32))]
    refine W.pop at_40 (pc' := 41) rfl rfl ?_
    refine W.iloadN at_41 (pc' := 42) rfl rfl ?_
    refine W.iloadN at_42 (pc' := 43) rfl rfl ?_
    refine W.icmpY at_43 (XT.ii_eq_t hab) (by decide) (pc' := 50) rfl ?_
    refine W.iconst (0 : Int32) at_50 (pc' := 51) rfl rfl ?_
    refine W.istore #[.val (.int a), .val (.int b), .val (.int flags), .val (.ref t), .val (.ref u0), .val (.ref u1), .val (.int (0 : Int32)), .unset, .unset, .unset, .unset, .unset, .unset] at_51 (pc' := 53) rfl rfl ?_
    refine W.iload at_53 (pc' := 55) rfl rfl ?_
    refine W.ifY at_55 (by decide) (by decide) (pc' := 62) rfl ?_
    refine W.iconst (1 : Int32) at_62 (pc' := 63) rfl rfl ?_
    refine W.istore #[.val (.int a), .val (.int b), .val (.int flags), .val (.ref t), .val (.ref u0), .val (.ref u1), .val (.int (0 : Int32)), .val (.int (1 : Int32)), .unset, .unset, .unset, .unset, .unset] at_63 (pc' := 65) rfl rfl ?_
    refine W.iloadN at_65 (pc' := 66) rfl rfl ?_
    refine W.iconst (1 : Int32) at_66 (pc' := 67) rfl rfl ?_
    refine W.iand at_67 (pc' := 68) rfl ?_
    by_cases f1 : (flags &&& (1 : Int32)) = 0
    · refine W.ifY at_68 (XT.i0_eq_t f1) (by decide) (pc' := 75) rfl ?_
      refine W.iconst (0 : Int32) at_75 (pc' := 76) rfl rfl ?_
      refine W.istore #[.val (.int a), .val (.int b), .val (.int flags), .val (.ref t), .val (.ref u0), .val (.ref u1), .val (.int (0 : Int32)), .val (.int (1 : Int32)), .val (.int (0 : Int32)), .unset, .unset, .unset, .unset] at_76 (pc' := 78) rfl rfl ?_
      refine W.iload at_78 (pc' := 80) rfl rfl ?_
      refine W.ifY at_80 (by decide) (by decide) (pc' := 93) rfl ?_
      refine W.iconst (0 : Int32) at_93 (pc' := 94) rfl rfl ?_
      refine W.istore #[.val (.int a), .val (.int b), .val (.int flags), .val (.ref t), .val (.ref u0), .val (.ref u1), .val (.int (0 : Int32)), .val (.int (1 : Int32)), .val (.int (0 : Int32)), .val (.int (0 : Int32)), .unset, .unset, .unset] at_94 (pc' := 96) rfl rfl ?_
      refine W.iloadN at_96 (pc' := 97) rfl rfl ?_
      refine W.iconst (4 : Int32) at_97 (pc' := 98) rfl rfl ?_
      refine W.iand at_98 (pc' := 99) rfl ?_
      by_cases f3 : (flags &&& (4 : Int32)) = 0
      · refine W.ifY at_99 (XT.i0_eq_t f3) (by decide) (pc' := 106) rfl ?_
        refine W.iconst (0 : Int32) at_106 (pc' := 107) rfl rfl ?_
        refine W.istore #[.val (.int a), .val (.int b), .val (.int flags), .val (.ref t), .val (.ref u0), .val (.ref u1), .val (.int (0 : Int32)), .val (.int (1 : Int32)), .val (.int (0 : Int32)), .val (.int (0 : Int32)), .val (.int (0 : Int32)), .unset, .unset] at_107 (pc' := 109) rfl rfl ?_
        refine W.iload at_109 (pc' := 111) rfl rfl ?_
        refine W.ifY at_111 (by decide) (by decide) (pc' := 119) rfl ?_
        refine W.iload at_119 (pc' := 121) rfl rfl ?_
        refine W.ifY at_121 (by decide) (by decide) (pc' := 128) rfl ?_
        refine W.iload at_128 (pc' := 130) rfl rfl ?_
        refine W.ifY at_130 (by decide) (by decide) (pc' := 138) rfl ?_
        refine W.aloadN at_138 (pc' := 139) rfl rfl rfl ?_
        refine W.callV 0 rfl (mBC0 l Z n0 a0 hw [(u1, (IA Z .int [b])), (u0, (IA Z .int [a]))] dv hdr t sl ix il rv va le ss a _) at_139 (wd hw 146 rfl) (wd hw 147 rfl) (wd hw 149 rfl) (wd hw 148 rfl) (wd hw 2 rfl) (wd hw 150 rfl) rfl (by decide) pd0 rfl rfl (Nat.le_of_ble_eq_true rfl) (Nat.le_of_ble_eq_true rfl) (Nat.le_of_ble_eq_true rfl) (Nat.le_of_ble_eq_true rfl) rfl (pc' := 142) rfl ?_
        intro v9 s9 q9
        rw [q9.1, q9.2]
        clear q9 v9 s9
        show W _ _ _ _ _ _ 12 134 [(t, (ShTS Z (.ref sl) (.ref ix) (.ref il) (.ref rv) (.int (1 : Int32)) (.ref va) (.ref le) (.ref ss) (.int (1 : Int32)) (.int (1 : Int32)) .null (.int (0 : Int32)) (.int (1 : Int32)) (.int (1 : Int32)))), (sl, (IA Z .int (own_one (own_s a)))), (rv, (IA Z .int (List.replicate 16 0))), (va, (IA Z .int (a :: List.replicate 15 0))), (le, (LA Z ((0 : Int64) :: List.replicate 15 0))), (ss, (IA Z .byte (List.replicate 16 0))), (il, (ShAL Z (.int (0 : Int32)) dv (.int (0 : Int32)))), (u1, (IA Z .int [b])), (u0, (IA Z .int [a]))] 142 #[.val (.int a), .val (.int b), .val (.int flags), .val (.ref t), .val (.ref u0), .val (.ref u1), .val (.int (0 : Int32)), .val (.int (1 : Int32)), .val (.int (0 : Int32)), .val (.int (0 : Int32)), .val (.int (0 : Int32)), .unset, .unset] []
        refine W.iload at_142 (pc' := 144) rfl rfl ?_
        refine W.iload at_144 (pc' := 146) rfl rfl ?_
        refine W.ifY at_146 (by decide) (by decide) (pc' := 153) rfl ?_
        refine W.iconst (0 : Int32) at_153 (pc' := 154) rfl rfl ?_
        refine W.isub at_154 (pc' := 155) rfl ?_
        refine W.topI (1 : Int32) (by decide) ?_
        refine W.iload at_155 (pc' := 157) rfl rfl ?_
        refine W.ifY at_157 (by decide) (by decide) (pc' := 164) rfl ?_
        refine W.iconst (0 : Int32) at_164 (pc' := 165) rfl rfl ?_
        refine W.isub at_165 (pc' := 166) rfl ?_
        refine W.topI (1 : Int32) (by decide) ?_
        refine W.istore #[.val (.int a), .val (.int b), .val (.int flags), .val (.ref t), .val (.ref u0), .val (.ref u1), .val (.int (0 : Int32)), .val (.int (1 : Int32)), .val (.int (0 : Int32)), .val (.int (0 : Int32)), .val (.int (0 : Int32)), .val (.int (1 : Int32)), .unset] at_166 (pc' := 168) rfl rfl ?_
        refine W.aloadN at_168 (pc' := 169) rfl rfl rfl ?_
        refine W.iconst (0 : Int32) at_169 (pc' := 170) rfl rfl ?_
        refine W.callV 0 rfl (mG1 l Z n0 a0 hw [(u1, (IA Z .int [b])), (u0, (IA Z .int [a]))] dv hdr t sl ix il rv va le ss a _) at_170 (wd hw 155 rfl) (wd hw 156 rfl) (wd hw 158 rfl) (wd hw 157 rfl) (wd hw 2 rfl) (wd hw 159 rfl) rfl (by decide) pd11 rfl rfl (Nat.le_of_ble_eq_true rfl) (Nat.le_of_ble_eq_true rfl) (Nat.le_of_ble_eq_true rfl) (Nat.le_of_ble_eq_true rfl) rfl (pc' := 173) rfl ?_
        intro v9 s9 q9
        rw [q9.1, q9.2]
        clear q9 v9 s9
        show W _ _ _ _ _ _ 12 134 [(t, (ShTS Z (.ref sl) (.ref ix) (.ref il) (.ref rv) (.int (1 : Int32)) (.ref va) (.ref le) (.ref ss) (.int (1 : Int32)) (.int (1 : Int32)) .null (.int (0 : Int32)) (.int (1 : Int32)) (.int (1 : Int32)))), (sl, (IA Z .int (own_one (own_s a)))), (rv, (IA Z .int (List.replicate 16 0))), (va, (IA Z .int (a :: List.replicate 15 0))), (le, (LA Z ((0 : Int64) :: List.replicate 15 0))), (ss, (IA Z .byte (List.replicate 16 0))), (il, (ShAL Z (.int (0 : Int32)) dv (.int (0 : Int32)))), (u1, (IA Z .int [b])), (u0, (IA Z .int [a]))] 173 #[.val (.int a), .val (.int b), .val (.int flags), .val (.ref t), .val (.ref u0), .val (.ref u1), .val (.int (0 : Int32)), .val (.int (1 : Int32)), .val (.int (0 : Int32)), .val (.int (0 : Int32)), .val (.int (0 : Int32)), .val (.int (1 : Int32)), .unset] [(.int (0 : Int32))]
        refine W.iload at_173 (pc' := 175) rfl rfl ?_
        refine W.ifY at_175 (by decide) (by decide) (pc' := 182) rfl ?_
        refine W.iconst (0 : Int32) at_182 (pc' := 183) rfl rfl ?_
        refine W.icmpN at_183 (by decide) (pc' := 186) rfl ?_
        refine W.iconst (1 : Int32) at_186 (pc' := 187) rfl rfl ?_
        refine W.goto at_187 (pc' := 191) (by decide) rfl ?_
        refine W.istore #[.val (.int a), .val (.int b), .val (.int flags), .val (.ref t), .val (.ref u0), .val (.ref u1), .val (.int (0 : Int32)), .val (.int (1 : Int32)), .val (.int (0 : Int32)), .val (.int (0 : Int32)), .val (.int (0 : Int32)), .val (.int (1 : Int32)), .val (.int (1 : Int32))] at_191 (pc' := 193) rfl rfl ?_
        refine W.iload at_193 (pc' := 195) rfl rfl ?_
        refine W.ifY at_195 (by decide) (by decide) (pc' := 228) rfl ?_
        refine W.iload at_228 (pc' := 230) rfl rfl ?_
        refine W.ifN at_230 (by decide) (pc' := 233) rfl ?_
        refine W.aloadN at_233 (pc' := 234) rfl rfl rfl ?_
        refine W.callV 0 rfl (mG2 l Z n0 a0 hw [(u1, (IA Z .int [b])), (u0, (IA Z .int [a]))] dv hdr t sl ix il rv va le ss a _) at_234 (wd hw 160 rfl) (wd hw 161 rfl) (wd hw 163 rfl) (wd hw 162 rfl) (wd hw 2 rfl) (wd hw 164 rfl) rfl (by decide) pd12 rfl rfl (Nat.le_of_ble_eq_true rfl) (Nat.le_of_ble_eq_true rfl) (Nat.le_of_ble_eq_true rfl) (Nat.le_of_ble_eq_true rfl) rfl (pc' := 237) rfl ?_
        intro v9 s9 q9
        rw [q9.1, q9.2]
        clear q9 v9 s9
        show W _ _ _ _ _ _ 12 134 [(t, (ShTS Z (.ref sl) (.ref ix) (.ref il) (.ref rv) (.int (1 : Int32)) (.ref va) (.ref le) (.ref ss) (.int (1 : Int32)) (.int (1 : Int32)) .null (.int (0 : Int32)) (.int (1 : Int32)) (.int (1 : Int32)))), (sl, (IA Z .int (own_one (own_s a)))), (rv, (IA Z .int (List.replicate 16 0))), (va, (IA Z .int (a :: List.replicate 15 0))), (le, (LA Z ((0 : Int64) :: List.replicate 15 0))), (ss, (IA Z .byte (List.replicate 16 0))), (il, (ShAL Z (.int (0 : Int32)) dv (.int (0 : Int32)))), (u1, (IA Z .int [b])), (u0, (IA Z .int [a]))] 237 #[.val (.int a), .val (.int b), .val (.int flags), .val (.ref t), .val (.ref u0), .val (.ref u1), .val (.int (0 : Int32)), .val (.int (1 : Int32)), .val (.int (0 : Int32)), .val (.int (0 : Int32)), .val (.int (0 : Int32)), .val (.int (1 : Int32)), .val (.int (1 : Int32))] [(.int (1 : Int32))]
        refine W.iload at_237 (pc' := 239) rfl rfl ?_
        refine W.icmpN at_239 (by decide) (pc' := 242) rfl ?_
        refine W.iconst (1 : Int32) at_242 (pc' := 243) rfl rfl ?_
        refine W.goto at_243 (pc' := 247) (by decide) rfl ?_
        refine W.istore #[.val (.int a), .val (.int b), .val (.int flags), .val (.ref t), .val (.ref u0), .val (.ref u1), .val (.int (0 : Int32)), .val (.int (1 : Int32)), .val (.int (0 : Int32)), .val (.int (0 : Int32)), .val (.int (0 : Int32)), .val (.int (1 : Int32)), .val (.int (1 : Int32))] at_247 (pc' := 249) rfl rfl ?_
        refine W.iload at_249 (pc' := 251) rfl rfl ?_
        refine W.ifN at_251 (by decide) (pc' := 254) rfl ?_
        refine W.aloadN at_254 (pc' := 255) rfl rfl rfl ?_
        refine W.callV 0 rfl (mG3 l Z n0 a0 hw [(u1, (IA Z .int [b])), (u0, (IA Z .int [a]))] dv hdr t sl ix il rv va le ss a _) at_255 (wd hw 165 rfl) (wd hw 166 rfl) (wd hw 168 rfl) (wd hw 167 rfl) (wd hw 2 rfl) (wd hw 169 rfl) rfl (by decide) pd12 rfl rfl (Nat.le_of_ble_eq_true rfl) (Nat.le_of_ble_eq_true rfl) (Nat.le_of_ble_eq_true rfl) (Nat.le_of_ble_eq_true rfl) rfl (pc' := 258) rfl ?_
        intro v9 s9 q9
        rw [q9.1, q9.2]
        clear q9 v9 s9
        show W _ _ _ _ _ _ 12 134 [(t, (ShTS Z (.ref sl) (.ref ix) (.ref il) (.ref rv) (.int (1 : Int32)) (.ref va) (.ref le) (.ref ss) (.int (1 : Int32)) (.int (1 : Int32)) .null (.int (0 : Int32)) (.int (1 : Int32)) (.int (1 : Int32)))), (sl, (IA Z .int (own_one (own_s a)))), (rv, (IA Z .int (List.replicate 16 0))), (va, (IA Z .int (a :: List.replicate 15 0))), (le, (LA Z ((0 : Int64) :: List.replicate 15 0))), (ss, (IA Z .byte (List.replicate 16 0))), (il, (ShAL Z (.int (0 : Int32)) dv (.int (0 : Int32)))), (u1, (IA Z .int [b])), (u0, (IA Z .int [a]))] 258 #[.val (.int a), .val (.int b), .val (.int flags), .val (.ref t), .val (.ref u0), .val (.ref u1), .val (.int (0 : Int32)), .val (.int (1 : Int32)), .val (.int (0 : Int32)), .val (.int (0 : Int32)), .val (.int (0 : Int32)), .val (.int (1 : Int32)), .val (.int (1 : Int32))] [(.int (0 : Int32))]
        refine W.ifN at_258 (by decide) (pc' := 261) rfl ?_
        refine W.iconst (1 : Int32) at_261 (pc' := 262) rfl rfl ?_
        refine W.goto at_262 (pc' := 266) (by decide) rfl ?_
        refine W.istore #[.val (.int a), .val (.int b), .val (.int flags), .val (.ref t), .val (.ref u0), .val (.ref u1), .val (.int (0 : Int32)), .val (.int (1 : Int32)), .val (.int (0 : Int32)), .val (.int (0 : Int32)), .val (.int (0 : Int32)), .val (.int (1 : Int32)), .val (.int (1 : Int32))] at_266 (pc' := 268) rfl rfl ?_
        refine W.iload at_268 (pc' := 270) rfl rfl ?_
        refine W.ifN at_270 (by decide) (pc' := 273) rfl ?_
        refine W.aloadN at_273 (pc' := 274) rfl rfl rfl ?_
        refine W.callV 0 rfl (mG4 l Z n0 a0 hw [(u1, (IA Z .int [b])), (u0, (IA Z .int [a]))] dv hdr t sl ix il rv va le ss a _) at_274 (wd hw 170 rfl) (wd hw 171 rfl) (wd hw 173 rfl) (wd hw 172 rfl) (wd hw 2 rfl) (wd hw 174 rfl) rfl (by decide) pd12 rfl rfl (Nat.le_of_ble_eq_true rfl) (Nat.le_of_ble_eq_true rfl) (Nat.le_of_ble_eq_true rfl) (Nat.le_of_ble_eq_true rfl) rfl (pc' := 277) rfl ?_
        intro v9 s9 q9
        rw [q9.1, q9.2]
        clear q9 v9 s9
        show W _ _ _ _ _ _ 12 134 [(t, (ShTS Z (.ref sl) (.ref ix) (.ref il) (.ref rv) (.int (1 : Int32)) (.ref va) (.ref le) (.ref ss) (.int (1 : Int32)) (.int (1 : Int32)) .null (.int (0 : Int32)) (.int (1 : Int32)) (.int (1 : Int32)))), (sl, (IA Z .int (own_one (own_s a)))), (rv, (IA Z .int (List.replicate 16 0))), (va, (IA Z .int (a :: List.replicate 15 0))), (le, (LA Z ((0 : Int64) :: List.replicate 15 0))), (ss, (IA Z .byte (List.replicate 16 0))), (il, (ShAL Z (.int (0 : Int32)) dv (.int (0 : Int32)))), (u1, (IA Z .int [b])), (u0, (IA Z .int [a]))] 277 #[.val (.int a), .val (.int b), .val (.int flags), .val (.ref t), .val (.ref u0), .val (.ref u1), .val (.int (0 : Int32)), .val (.int (1 : Int32)), .val (.int (0 : Int32)), .val (.int (0 : Int32)), .val (.int (0 : Int32)), .val (.int (1 : Int32)), .val (.int (1 : Int32))] [(.int (1 : Int32))]
        refine W.iload at_277 (pc' := 279) rfl rfl ?_
        refine W.icmpN at_279 (by decide) (pc' := 282) rfl ?_
        refine W.iconst (1 : Int32) at_282 (pc' := 283) rfl rfl ?_
        refine W.goto at_283 (pc' := 287) (by decide) rfl ?_
        refine W.istore #[.val (.int a), .val (.int b), .val (.int flags), .val (.ref t), .val (.ref u0), .val (.ref u1), .val (.int (0 : Int32)), .val (.int (1 : Int32)), .val (.int (0 : Int32)), .val (.int (0 : Int32)), .val (.int (0 : Int32)), .val (.int (1 : Int32)), .val (.int (1 : Int32))] at_287 (pc' := 289) rfl rfl ?_
        refine W.iload at_289 (pc' := 291) rfl rfl ?_
        exact W.retN (t := .boolean) 1 at_291 rfl (by simp) rfl (by decide) (by decide) rfl
      · refine W.ifN at_99 (XT.i0_eq_f f3) (pc' := 102) rfl ?_
        refine W.iconst (1 : Int32) at_102 (pc' := 103) rfl rfl ?_
        refine W.goto at_103 (pc' := 107) (by decide) rfl ?_
        refine W.istore #[.val (.int a), .val (.int b), .val (.int flags), .val (.ref t), .val (.ref u0), .val (.ref u1), .val (.int (0 : Int32)), .val (.int (1 : Int32)), .val (.int (0 : Int32)), .val (.int (0 : Int32)), .val (.int (1 : Int32)), .unset, .unset] at_107 (pc' := 109) rfl rfl ?_
        refine W.iload at_109 (pc' := 111) rfl rfl ?_
        refine W.ifY at_111 (by decide) (by decide) (pc' := 119) rfl ?_
        refine W.iload at_119 (pc' := 121) rfl rfl ?_
        refine W.ifN at_121 (by decide) (pc' := 124) rfl ?_
        refine W.aloadN at_124 (pc' := 125) rfl rfl rfl ?_
        refine W.callV 0 rfl (mBC0 l Z n0 a0 hw [(u1, (IA Z .int [b])), (u0, (IA Z .int [a]))] dv hdr t sl ix il rv va le ss a _) at_125 (wd hw 146 rfl) (wd hw 147 rfl) (wd hw 149 rfl) (wd hw 148 rfl) (wd hw 2 rfl) (wd hw 150 rfl) rfl (by decide) pd0 rfl rfl (Nat.le_of_ble_eq_true rfl) (Nat.le_of_ble_eq_true rfl) (Nat.le_of_ble_eq_true rfl) (Nat.le_of_ble_eq_true rfl) rfl (pc' := 128) rfl ?_
        intro v9 s9 q9
        rw [q9.1, q9.2]
        clear q9 v9 s9
        show W _ _ _ _ _ _ 12 134 [(t, (ShTS Z (.ref sl) (.ref ix) (.ref il) (.ref rv) (.int (1 : Int32)) (.ref va) (.ref le) (.ref ss) (.int (1 : Int32)) (.int (1 : Int32)) .null (.int (0 : Int32)) (.int (1 : Int32)) (.int (1 : Int32)))), (sl, (IA Z .int (own_one (own_s a)))), (rv, (IA Z .int (List.replicate 16 0))), (va, (IA Z .int (a :: List.replicate 15 0))), (le, (LA Z ((0 : Int64) :: List.replicate 15 0))), (ss, (IA Z .byte (List.replicate 16 0))), (il, (ShAL Z (.int (0 : Int32)) dv (.int (0 : Int32)))), (u1, (IA Z .int [b])), (u0, (IA Z .int [a]))] 128 #[.val (.int a), .val (.int b), .val (.int flags), .val (.ref t), .val (.ref u0), .val (.ref u1), .val (.int (0 : Int32)), .val (.int (1 : Int32)), .val (.int (0 : Int32)), .val (.int (0 : Int32)), .val (.int (1 : Int32)), .unset, .unset] []
        refine W.iload at_128 (pc' := 130) rfl rfl ?_
        refine W.ifY at_130 (by decide) (by decide) (pc' := 138) rfl ?_
        refine W.aloadN at_138 (pc' := 139) rfl rfl rfl ?_
        refine W.callV 0 rfl (mBC5 l Z n0 a0 hw [(u1, (IA Z .int [b])), (u0, (IA Z .int [a]))] dv hdr t sl ix il rv va le ss a _) at_139 (wd hw 146 rfl) (wd hw 147 rfl) (wd hw 149 rfl) (wd hw 148 rfl) (wd hw 2 rfl) (wd hw 150 rfl) rfl (by decide) pd0 rfl rfl (Nat.le_of_ble_eq_true rfl) (Nat.le_of_ble_eq_true rfl) (Nat.le_of_ble_eq_true rfl) (Nat.le_of_ble_eq_true rfl) rfl (pc' := 142) rfl ?_
        intro v9 s9 q9
        rw [q9.1, q9.2]
        clear q9 v9 s9
        show W _ _ _ _ _ _ 12 134 [(t, (ShTS Z (.ref sl) (.ref ix) (.ref il) (.ref rv) (.int (1 : Int32)) (.ref va) (.ref le) (.ref ss) (.int (1 : Int32)) (.int (1 : Int32)) .null (.int (0 : Int32)) (.int (1 : Int32)) (.int (1 : Int32)))), (sl, (IA Z .int (own_one (own_s a)))), (rv, (IA Z .int (List.replicate 16 0))), (va, (IA Z .int (a :: List.replicate 15 0))), (le, (LA Z ((0 : Int64) :: List.replicate 15 0))), (ss, (IA Z .byte (List.replicate 16 0))), (il, (ShAL Z (.int (0 : Int32)) dv (.int (0 : Int32)))), (u1, (IA Z .int [b])), (u0, (IA Z .int [a]))] 142 #[.val (.int a), .val (.int b), .val (.int flags), .val (.ref t), .val (.ref u0), .val (.ref u1), .val (.int (0 : Int32)), .val (.int (1 : Int32)), .val (.int (0 : Int32)), .val (.int (0 : Int32)), .val (.int (1 : Int32)), .unset, .unset] []
        refine W.iload at_142 (pc' := 144) rfl rfl ?_
        refine W.iload at_144 (pc' := 146) rfl rfl ?_
        refine W.ifY at_146 (by decide) (by decide) (pc' := 153) rfl ?_
        refine W.iconst (0 : Int32) at_153 (pc' := 154) rfl rfl ?_
        refine W.isub at_154 (pc' := 155) rfl ?_
        refine W.topI (1 : Int32) (by decide) ?_
        refine W.iload at_155 (pc' := 157) rfl rfl ?_
        refine W.ifY at_157 (by decide) (by decide) (pc' := 164) rfl ?_
        refine W.iconst (0 : Int32) at_164 (pc' := 165) rfl rfl ?_
        refine W.isub at_165 (pc' := 166) rfl ?_
        refine W.topI (1 : Int32) (by decide) ?_
        refine W.istore #[.val (.int a), .val (.int b), .val (.int flags), .val (.ref t), .val (.ref u0), .val (.ref u1), .val (.int (0 : Int32)), .val (.int (1 : Int32)), .val (.int (0 : Int32)), .val (.int (0 : Int32)), .val (.int (1 : Int32)), .val (.int (1 : Int32)), .unset] at_166 (pc' := 168) rfl rfl ?_
        refine W.aloadN at_168 (pc' := 169) rfl rfl rfl ?_
        refine W.iconst (0 : Int32) at_169 (pc' := 170) rfl rfl ?_
        refine W.callV 0 rfl (mG1 l Z n0 a0 hw [(u1, (IA Z .int [b])), (u0, (IA Z .int [a]))] dv hdr t sl ix il rv va le ss a _) at_170 (wd hw 155 rfl) (wd hw 156 rfl) (wd hw 158 rfl) (wd hw 157 rfl) (wd hw 2 rfl) (wd hw 159 rfl) rfl (by decide) pd11 rfl rfl (Nat.le_of_ble_eq_true rfl) (Nat.le_of_ble_eq_true rfl) (Nat.le_of_ble_eq_true rfl) (Nat.le_of_ble_eq_true rfl) rfl (pc' := 173) rfl ?_
        intro v9 s9 q9
        rw [q9.1, q9.2]
        clear q9 v9 s9
        show W _ _ _ _ _ _ 12 134 [(t, (ShTS Z (.ref sl) (.ref ix) (.ref il) (.ref rv) (.int (1 : Int32)) (.ref va) (.ref le) (.ref ss) (.int (1 : Int32)) (.int (1 : Int32)) .null (.int (0 : Int32)) (.int (1 : Int32)) (.int (1 : Int32)))), (sl, (IA Z .int (own_one (own_s a)))), (rv, (IA Z .int (List.replicate 16 0))), (va, (IA Z .int (a :: List.replicate 15 0))), (le, (LA Z ((0 : Int64) :: List.replicate 15 0))), (ss, (IA Z .byte (List.replicate 16 0))), (il, (ShAL Z (.int (0 : Int32)) dv (.int (0 : Int32)))), (u1, (IA Z .int [b])), (u0, (IA Z .int [a]))] 173 #[.val (.int a), .val (.int b), .val (.int flags), .val (.ref t), .val (.ref u0), .val (.ref u1), .val (.int (0 : Int32)), .val (.int (1 : Int32)), .val (.int (0 : Int32)), .val (.int (0 : Int32)), .val (.int (1 : Int32)), .val (.int (1 : Int32)), .unset] [(.int (0 : Int32))]
        refine W.iload at_173 (pc' := 175) rfl rfl ?_
        refine W.ifY at_175 (by decide) (by decide) (pc' := 182) rfl ?_
        refine W.iconst (0 : Int32) at_182 (pc' := 183) rfl rfl ?_
        refine W.icmpN at_183 (by decide) (pc' := 186) rfl ?_
        refine W.iconst (1 : Int32) at_186 (pc' := 187) rfl rfl ?_
        refine W.goto at_187 (pc' := 191) (by decide) rfl ?_
        refine W.istore #[.val (.int a), .val (.int b), .val (.int flags), .val (.ref t), .val (.ref u0), .val (.ref u1), .val (.int (0 : Int32)), .val (.int (1 : Int32)), .val (.int (0 : Int32)), .val (.int (0 : Int32)), .val (.int (1 : Int32)), .val (.int (1 : Int32)), .val (.int (1 : Int32))] at_191 (pc' := 193) rfl rfl ?_
        refine W.iload at_193 (pc' := 195) rfl rfl ?_
        refine W.ifY at_195 (by decide) (by decide) (pc' := 228) rfl ?_
        refine W.iload at_228 (pc' := 230) rfl rfl ?_
        refine W.ifN at_230 (by decide) (pc' := 233) rfl ?_
        refine W.aloadN at_233 (pc' := 234) rfl rfl rfl ?_
        refine W.callV 0 rfl (mG2 l Z n0 a0 hw [(u1, (IA Z .int [b])), (u0, (IA Z .int [a]))] dv hdr t sl ix il rv va le ss a _) at_234 (wd hw 160 rfl) (wd hw 161 rfl) (wd hw 163 rfl) (wd hw 162 rfl) (wd hw 2 rfl) (wd hw 164 rfl) rfl (by decide) pd12 rfl rfl (Nat.le_of_ble_eq_true rfl) (Nat.le_of_ble_eq_true rfl) (Nat.le_of_ble_eq_true rfl) (Nat.le_of_ble_eq_true rfl) rfl (pc' := 237) rfl ?_
        intro v9 s9 q9
        rw [q9.1, q9.2]
        clear q9 v9 s9
        show W _ _ _ _ _ _ 12 134 [(t, (ShTS Z (.ref sl) (.ref ix) (.ref il) (.ref rv) (.int (1 : Int32)) (.ref va) (.ref le) (.ref ss) (.int (1 : Int32)) (.int (1 : Int32)) .null (.int (0 : Int32)) (.int (1 : Int32)) (.int (1 : Int32)))), (sl, (IA Z .int (own_one (own_s a)))), (rv, (IA Z .int (List.replicate 16 0))), (va, (IA Z .int (a :: List.replicate 15 0))), (le, (LA Z ((0 : Int64) :: List.replicate 15 0))), (ss, (IA Z .byte (List.replicate 16 0))), (il, (ShAL Z (.int (0 : Int32)) dv (.int (0 : Int32)))), (u1, (IA Z .int [b])), (u0, (IA Z .int [a]))] 237 #[.val (.int a), .val (.int b), .val (.int flags), .val (.ref t), .val (.ref u0), .val (.ref u1), .val (.int (0 : Int32)), .val (.int (1 : Int32)), .val (.int (0 : Int32)), .val (.int (0 : Int32)), .val (.int (1 : Int32)), .val (.int (1 : Int32)), .val (.int (1 : Int32))] [(.int (1 : Int32))]
        refine W.iload at_237 (pc' := 239) rfl rfl ?_
        refine W.icmpN at_239 (by decide) (pc' := 242) rfl ?_
        refine W.iconst (1 : Int32) at_242 (pc' := 243) rfl rfl ?_
        refine W.goto at_243 (pc' := 247) (by decide) rfl ?_
        refine W.istore #[.val (.int a), .val (.int b), .val (.int flags), .val (.ref t), .val (.ref u0), .val (.ref u1), .val (.int (0 : Int32)), .val (.int (1 : Int32)), .val (.int (0 : Int32)), .val (.int (0 : Int32)), .val (.int (1 : Int32)), .val (.int (1 : Int32)), .val (.int (1 : Int32))] at_247 (pc' := 249) rfl rfl ?_
        refine W.iload at_249 (pc' := 251) rfl rfl ?_
        refine W.ifN at_251 (by decide) (pc' := 254) rfl ?_
        refine W.aloadN at_254 (pc' := 255) rfl rfl rfl ?_
        refine W.callV 0 rfl (mG3 l Z n0 a0 hw [(u1, (IA Z .int [b])), (u0, (IA Z .int [a]))] dv hdr t sl ix il rv va le ss a _) at_255 (wd hw 165 rfl) (wd hw 166 rfl) (wd hw 168 rfl) (wd hw 167 rfl) (wd hw 2 rfl) (wd hw 169 rfl) rfl (by decide) pd12 rfl rfl (Nat.le_of_ble_eq_true rfl) (Nat.le_of_ble_eq_true rfl) (Nat.le_of_ble_eq_true rfl) (Nat.le_of_ble_eq_true rfl) rfl (pc' := 258) rfl ?_
        intro v9 s9 q9
        rw [q9.1, q9.2]
        clear q9 v9 s9
        show W _ _ _ _ _ _ 12 134 [(t, (ShTS Z (.ref sl) (.ref ix) (.ref il) (.ref rv) (.int (1 : Int32)) (.ref va) (.ref le) (.ref ss) (.int (1 : Int32)) (.int (1 : Int32)) .null (.int (0 : Int32)) (.int (1 : Int32)) (.int (1 : Int32)))), (sl, (IA Z .int (own_one (own_s a)))), (rv, (IA Z .int (List.replicate 16 0))), (va, (IA Z .int (a :: List.replicate 15 0))), (le, (LA Z ((0 : Int64) :: List.replicate 15 0))), (ss, (IA Z .byte (List.replicate 16 0))), (il, (ShAL Z (.int (0 : Int32)) dv (.int (0 : Int32)))), (u1, (IA Z .int [b])), (u0, (IA Z .int [a]))] 258 #[.val (.int a), .val (.int b), .val (.int flags), .val (.ref t), .val (.ref u0), .val (.ref u1), .val (.int (0 : Int32)), .val (.int (1 : Int32)), .val (.int (0 : Int32)), .val (.int (0 : Int32)), .val (.int (1 : Int32)), .val (.int (1 : Int32)), .val (.int (1 : Int32))] [(.int (0 : Int32))]
        refine W.ifN at_258 (by decide) (pc' := 261) rfl ?_
        refine W.iconst (1 : Int32) at_261 (pc' := 262) rfl rfl ?_
        refine W.goto at_262 (pc' := 266) (by decide) rfl ?_
        refine W.istore #[.val (.int a), .val (.int b), .val (.int flags), .val (.ref t), .val (.ref u0), .val (.ref u1), .val (.int (0 : Int32)), .val (.int (1 : Int32)), .val (.int (0 : Int32)), .val (.int (0 : Int32)), .val (.int (1 : Int32)), .val (.int (1 : Int32)), .val (.int (1 : Int32))] at_266 (pc' := 268) rfl rfl ?_
        refine W.iload at_268 (pc' := 270) rfl rfl ?_
        refine W.ifN at_270 (by decide) (pc' := 273) rfl ?_
        refine W.aloadN at_273 (pc' := 274) rfl rfl rfl ?_
        refine W.callV 0 rfl (mG4 l Z n0 a0 hw [(u1, (IA Z .int [b])), (u0, (IA Z .int [a]))] dv hdr t sl ix il rv va le ss a _) at_274 (wd hw 170 rfl) (wd hw 171 rfl) (wd hw 173 rfl) (wd hw 172 rfl) (wd hw 2 rfl) (wd hw 174 rfl) rfl (by decide) pd12 rfl rfl (Nat.le_of_ble_eq_true rfl) (Nat.le_of_ble_eq_true rfl) (Nat.le_of_ble_eq_true rfl) (Nat.le_of_ble_eq_true rfl) rfl (pc' := 277) rfl ?_
        intro v9 s9 q9
        rw [q9.1, q9.2]
        clear q9 v9 s9
        show W _ _ _ _ _ _ 12 134 [(t, (ShTS Z (.ref sl) (.ref ix) (.ref il) (.ref rv) (.int (1 : Int32)) (.ref va) (.ref le) (.ref ss) (.int (1 : Int32)) (.int (1 : Int32)) .null (.int (0 : Int32)) (.int (1 : Int32)) (.int (1 : Int32)))), (sl, (IA Z .int (own_one (own_s a)))), (rv, (IA Z .int (List.replicate 16 0))), (va, (IA Z .int (a :: List.replicate 15 0))), (le, (LA Z ((0 : Int64) :: List.replicate 15 0))), (ss, (IA Z .byte (List.replicate 16 0))), (il, (ShAL Z (.int (0 : Int32)) dv (.int (0 : Int32)))), (u1, (IA Z .int [b])), (u0, (IA Z .int [a]))] 277 #[.val (.int a), .val (.int b), .val (.int flags), .val (.ref t), .val (.ref u0), .val (.ref u1), .val (.int (0 : Int32)), .val (.int (1 : Int32)), .val (.int (0 : Int32)), .val (.int (0 : Int32)), .val (.int (1 : Int32)), .val (.int (1 : Int32)), .val (.int (1 : Int32))] [(.int (1 : Int32))]
        refine W.iload at_277 (pc' := 279) rfl rfl ?_
        refine W.icmpN at_279 (by decide) (pc' := 282) rfl ?_
        refine W.iconst (1 : Int32) at_282 (pc' := 283) rfl rfl ?_
        refine W.goto at_283 (pc' := 287) (by decide) rfl ?_
        refine W.istore #[.val (.int a), .val (.int b), .val (.int flags), .val (.ref t), .val (.ref u0), .val (.ref u1), .val (.int (0 : Int32)), .val (.int (1 : Int32)), .val (.int (0 : Int32)), .val (.int (0 : Int32)), .val (.int (1 : Int32)), .val (.int (1 : Int32)), .val (.int (1 : Int32))] at_287 (pc' := 289) rfl rfl ?_
        refine W.iload at_289 (pc' := 291) rfl rfl ?_
        exact W.retN (t := .boolean) 1 at_291 rfl (by simp) rfl (by decide) (by decide) rfl
    · refine W.ifN at_68 (XT.i0_eq_f f1) (pc' := 71) rfl ?_
      refine W.iconst (1 : Int32) at_71 (pc' := 72) rfl rfl ?_
      refine W.goto at_72 (pc' := 76) (by decide) rfl ?_
      refine W.istore #[.val (.int a), .val (.int b), .val (.int flags), .val (.ref t), .val (.ref u0), .val (.ref u1), .val (.int (0 : Int32)), .val (.int (1 : Int32)), .val (.int (1 : Int32)), .unset, .unset, .unset, .unset] at_76 (pc' := 78) rfl rfl ?_
      refine W.iload at_78 (pc' := 80) rfl rfl ?_
      refine W.ifY at_80 (by decide) (by decide) (pc' := 93) rfl ?_
      refine W.iconst (0 : Int32) at_93 (pc' := 94) rfl rfl ?_
      refine W.istore #[.val (.int a), .val (.int b), .val (.int flags), .val (.ref t), .val (.ref u0), .val (.ref u1), .val (.int (0 : Int32)), .val (.int (1 : Int32)), .val (.int (1 : Int32)), .val (.int (0 : Int32)), .unset, .unset, .unset] at_94 (pc' := 96) rfl rfl ?_
      refine W.iloadN at_96 (pc' := 97) rfl rfl ?_
      refine W.iconst (4 : Int32) at_97 (pc' := 98) rfl rfl ?_
      refine W.iand at_98 (pc' := 99) rfl ?_
      by_cases f3 : (flags &&& (4 : Int32)) = 0
      · refine W.ifY at_99 (XT.i0_eq_t f3) (by decide) (pc' := 106) rfl ?_
        refine W.iconst (0 : Int32) at_106 (pc' := 107) rfl rfl ?_
        refine W.istore #[.val (.int a), .val (.int b), .val (.int flags), .val (.ref t), .val (.ref u0), .val (.ref u1), .val (.int (0 : Int32)), .val (.int (1 : Int32)), .val (.int (1 : Int32)), .val (.int (0 : Int32)), .val (.int (0 : Int32)), .unset, .unset] at_107 (pc' := 109) rfl rfl ?_
        refine W.iload at_109 (pc' := 111) rfl rfl ?_
        refine W.ifN at_111 (by decide) (pc' := 114) rfl ?_
        refine W.aloadN at_114 (pc' := 115) rfl rfl rfl ?_
        refine W.iconst (0 : Int32) at_115 (pc' := 116) rfl rfl ?_
        refine W.callV 0 rfl (mRem7 l Z n0 a0 hw [(u1, (IA Z .int [b])), (u0, (IA Z .int [a]))] dv hdr t sl ix il rv va le ss a) at_116 (wd hw 139 rfl) (wd hw 140 rfl) (wd hw 142 rfl) (wd hw 141 rfl) (wd hw 2 rfl) (wd hw 143 rfl) rfl (by decide) pd9 rfl rfl (Nat.le_of_ble_eq_true rfl) (Nat.le_of_ble_eq_true rfl) (Nat.le_of_ble_eq_true rfl) (Nat.le_of_ble_eq_true rfl) rfl (pc' := 119) rfl ?_
        rintro _ _ ⟨rfl, x0, hl1, hk1, rfl⟩
        show W _ _ _ _ _ _ 12 134 [(t, (ShTS Z (.ref sl) (.ref ix) (.ref il) (.ref rv) (.int (1 : Int32)) (.ref va) (.ref le) (.ref ss) (.int (0 : Int32)) (.int (1 : Int32)) .null (.int (1 : Int32)) (.int (0 : Int32)) (.int (0 : Int32)))), (sl, (IA Z .int x0)), (rv, (IA Z .int (List.replicate 16 0))), (va, (IA Z .int (a :: List.replicate 15 0))), (le, (LA Z ((0 : Int64) :: List.replicate 15 0))), (ss, (IA Z .byte (3 :: List.replicate 15 0))), (il, (ShAL Z (.int (0 : Int32)) dv (.int (0 : Int32)))), (u1, (IA Z .int [b])), (u0, (IA Z .int [a]))] 119 #[.val (.int a), .val (.int b), .val (.int flags), .val (.ref t), .val (.ref u0), .val (.ref u1), .val (.int (0 : Int32)), .val (.int (1 : Int32)), .val (.int (1 : Int32)), .val (.int (0 : Int32)), .val (.int (0 : Int32)), .unset, .unset] []
        refine W.iload at_119 (pc' := 121) rfl rfl ?_
        refine W.ifY at_121 (by decide) (by decide) (pc' := 128) rfl ?_
        refine W.iload at_128 (pc' := 130) rfl rfl ?_
        refine W.ifY at_130 (by decide) (by decide) (pc' := 138) rfl ?_
        refine W.aloadN at_138 (pc' := 139) rfl rfl rfl ?_
        refine W.callV 0 rfl (mBC8 l Z n0 a0 hw [(u1, (IA Z .int [b])), (u0, (IA Z .int [a]))] dv hdr t sl ix il rv va le ss a _) at_139 (wd hw 146 rfl) (wd hw 147 rfl) (wd hw 149 rfl) (wd hw 148 rfl) (wd hw 2 rfl) (wd hw 150 rfl) rfl (by decide) pd0 rfl rfl (Nat.le_of_ble_eq_true rfl) (Nat.le_of_ble_eq_true rfl) (Nat.le_of_ble_eq_true rfl) (Nat.le_of_ble_eq_true rfl) rfl (pc' := 142) rfl ?_
        intro v9 s9 q9
        rw [q9.1, q9.2]
        clear q9 v9 s9
        show W _ _ _ _ _ _ 12 134 [(t, (ShTS Z (.ref sl) (.ref ix) (.ref il) (.ref rv) (.int (1 : Int32)) (.ref va) (.ref le) (.ref ss) (.int (0 : Int32)) (.int (1 : Int32)) .null (.int (0 : Int32)) (.int (1 : Int32)) (.int (0 : Int32)))), (sl, (IA Z .int x0)), (rv, (IA Z .int (List.replicate 16 0))), (va, (IA Z .int (a :: List.replicate 15 0))), (le, (LA Z ((0 : Int64) :: List.replicate 15 0))), (ss, (IA Z .byte (4 :: List.replicate 15 0))), (il, (ShAL Z (.int (0 : Int32)) dv (.int (0 : Int32)))), (u1, (IA Z .int [b])), (u0, (IA Z .int [a]))] 142 #[.val (.int a), .val (.int b), .val (.int flags), .val (.ref t), .val (.ref u0), .val (.ref u1), .val (.int (0 : Int32)), .val (.int (1 : Int32)), .val (.int (1 : Int32)), .val (.int (0 : Int32)), .val (.int (0 : Int32)), .unset, .unset] []
        refine W.iload at_142 (pc' := 144) rfl rfl ?_
        refine W.iload at_144 (pc' := 146) rfl rfl ?_
        refine W.ifN at_146 (by decide) (pc' := 149) rfl ?_
        refine W.iconst (1 : Int32) at_149 (pc' := 150) rfl rfl ?_
        refine W.goto at_150 (pc' := 154) (by decide) rfl ?_
        refine W.isub at_154 (pc' := 155) rfl ?_
        refine W.topI (0 : Int32) (by decide) ?_
        refine W.iload at_155 (pc' := 157) rfl rfl ?_
        refine W.ifY at_157 (by decide) (by decide) (pc' := 164) rfl ?_
        refine W.iconst (0 : Int32) at_164 (pc' := 165) rfl rfl ?_
        refine W.isub at_165 (pc' := 166) rfl ?_
        refine W.topI (0 : Int32) (by decide) ?_
        refine W.istore #[.val (.int a), .val (.int b), .val (.int flags), .val (.ref t), .val (.ref u0), .val (.ref u1), .val (.int (0 : Int32)), .val (.int (1 : Int32)), .val (.int (1 : Int32)), .val (.int (0 : Int32)), .val (.int (0 : Int32)), .val (.int (0 : Int32)), .unset] at_166 (pc' := 168) rfl rfl ?_
        refine W.aloadN at_168 (pc' := 169) rfl rfl rfl ?_
        refine W.iconst (0 : Int32) at_169 (pc' := 170) rfl rfl ?_
        refine W.callV 0 rfl (mG9 l Z n0 a0 hw [(u1, (IA Z .int [b])), (u0, (IA Z .int [a]))] dv hdr t sl ix il rv va le ss a _) at_170 (wd hw 155 rfl) (wd hw 156 rfl) (wd hw 158 rfl) (wd hw 157 rfl) (wd hw 2 rfl) (wd hw 159 rfl) rfl (by decide) pd11 rfl rfl (Nat.le_of_ble_eq_true rfl) (Nat.le_of_ble_eq_true rfl) (Nat.le_of_ble_eq_true rfl) (Nat.le_of_ble_eq_true rfl) rfl (pc' := 173) rfl ?_
        intro v9 s9 q9
        rw [q9.1, q9.2]
        clear q9 v9 s9
        show W _ _ _ _ _ _ 12 134 [(t, (ShTS Z (.ref sl) (.ref ix) (.ref il) (.ref rv) (.int (1 : Int32)) (.ref va) (.ref le) (.ref ss) (.int (0 : Int32)) (.int (1 : Int32)) .null (.int (0 : Int32)) (.int (1 : Int32)) (.int (0 : Int32)))), (sl, (IA Z .int x0)), (rv, (IA Z .int (List.replicate 16 0))), (va, (IA Z .int (a :: List.replicate 15 0))), (le, (LA Z ((0 : Int64) :: List.replicate 15 0))), (ss, (IA Z .byte (4 :: List.replicate 15 0))), (il, (ShAL Z (.int (0 : Int32)) dv (.int (0 : Int32)))), (u1, (IA Z .int [b])), (u0, (IA Z .int [a]))] 173 #[.val (.int a), .val (.int b), .val (.int flags), .val (.ref t), .val (.ref u0), .val (.ref u1), .val (.int (0 : Int32)), .val (.int (1 : Int32)), .val (.int (1 : Int32)), .val (.int (0 : Int32)), .val (.int (0 : Int32)), .val (.int (0 : Int32)), .unset] [(.int (4 : Int32))]
        refine W.iload at_173 (pc' := 175) rfl rfl ?_
        refine W.ifN at_175 (by decide) (pc' := 178) rfl ?_
        refine W.iconst (4 : Int32) at_178 (pc' := 179) rfl rfl ?_
        refine W.goto at_179 (pc' := 183) (by decide) rfl ?_
        refine W.icmpN at_183 (by decide) (pc' := 186) rfl ?_
        refine W.iconst (1 : Int32) at_186 (pc' := 187) rfl rfl ?_
        refine W.goto at_187 (pc' := 191) (by decide) rfl ?_
        refine W.istore #[.val (.int a), .val (.int b), .val (.int flags), .val (.ref t), .val (.ref u0), .val (.ref u1), .val (.int (0 : Int32)), .val (.int (1 : Int32)), .val (.int (1 : Int32)), .val (.int (0 : Int32)), .val (.int (0 : Int32)), .val (.int (0 : Int32)), .val (.int (1 : Int32))] at_191 (pc' := 193) rfl rfl ?_
        refine W.iload at_193 (pc' := 195) rfl rfl ?_
        refine W.ifY at_195 (by decide) (by decide) (pc' := 228) rfl ?_
        refine W.iload at_228 (pc' := 230) rfl rfl ?_
        refine W.ifN at_230 (by decide) (pc' := 233) rfl ?_
        refine W.aloadN at_233 (pc' := 234) rfl rfl rfl ?_
        refine W.callV 0 rfl (mG10 l Z n0 a0 hw [(u1, (IA Z .int [b])), (u0, (IA Z .int [a]))] dv hdr t sl ix il rv va le ss a _) at_234 (wd hw 160 rfl) (wd hw 161 rfl) (wd hw 163 rfl) (wd hw 162 rfl) (wd hw 2 rfl) (wd hw 164 rfl) rfl (by decide) pd12 rfl rfl (Nat.le_of_ble_eq_true rfl) (Nat.le_of_ble_eq_true rfl) (Nat.le_of_ble_eq_true rfl) (Nat.le_of_ble_eq_true rfl) rfl (pc' := 237) rfl ?_
        intro v9 s9 q9
        rw [q9.1, q9.2]
        clear q9 v9 s9
        show W _ _ _ _ _ _ 12 134 [(t, (ShTS Z (.ref sl) (.ref ix) (.ref il) (.ref rv) (.int (1 : Int32)) (.ref va) (.ref le) (.ref ss) (.int (0 : Int32)) (.int (1 : Int32)) .null (.int (0 : Int32)) (.int (1 : Int32)) (.int (0 : Int32)))), (sl, (IA Z .int x0)), (rv, (IA Z .int (List.replicate 16 0))), (va, (IA Z .int (a :: List.replicate 15 0))), (le, (LA Z ((0 : Int64) :: List.replicate 15 0))), (ss, (IA Z .byte (4 :: List.replicate 15 0))), (il, (ShAL Z (.int (0 : Int32)) dv (.int (0 : Int32)))), (u1, (IA Z .int [b])), (u0, (IA Z .int [a]))] 237 #[.val (.int a), .val (.int b), .val (.int flags), .val (.ref t), .val (.ref u0), .val (.ref u1), .val (.int (0 : Int32)), .val (.int (1 : Int32)), .val (.int (1 : Int32)), .val (.int (0 : Int32)), .val (.int (0 : Int32)), .val (.int (0 : Int32)), .val (.int (1 : Int32))] [(.int (1 : Int32))]
        refine W.iload at_237 (pc' := 239) rfl rfl ?_
        refine W.icmpN at_239 (by decide) (pc' := 242) rfl ?_
        refine W.iconst (1 : Int32) at_242 (pc' := 243) rfl rfl ?_
        refine W.goto at_243 (pc' := 247) (by decide) rfl ?_
        refine W.istore #[.val (.int a), .val (.int b), .val (.int flags), .val (.ref t), .val (.ref u0), .val (.ref u1), .val (.int (0 : Int32)), .val (.int (1 : Int32)), .val (.int (1 : Int32)), .val (.int (0 : Int32)), .val (.int (0 : Int32)), .val (.int (0 : Int32)), .val (.int (1 : Int32))] at_247 (pc' := 249) rfl rfl ?_
        refine W.iload at_249 (pc' := 251) rfl rfl ?_
        refine W.ifN at_251 (by decide) (pc' := 254) rfl ?_
        refine W.aloadN at_254 (pc' := 255) rfl rfl rfl ?_
        refine W.callV 0 rfl (mG11 l Z n0 a0 hw [(u1, (IA Z .int [b])), (u0, (IA Z .int [a]))] dv hdr t sl ix il rv va le ss a _) at_255 (wd hw 165 rfl) (wd hw 166 rfl) (wd hw 168 rfl) (wd hw 167 rfl) (wd hw 2 rfl) (wd hw 169 rfl) rfl (by decide) pd12 rfl rfl (Nat.le_of_ble_eq_true rfl) (Nat.le_of_ble_eq_true rfl) (Nat.le_of_ble_eq_true rfl) (Nat.le_of_ble_eq_true rfl) rfl (pc' := 258) rfl ?_
        intro v9 s9 q9
        rw [q9.1, q9.2]
        clear q9 v9 s9
        show W _ _ _ _ _ _ 12 134 [(t, (ShTS Z (.ref sl) (.ref ix) (.ref il) (.ref rv) (.int (1 : Int32)) (.ref va) (.ref le) (.ref ss) (.int (0 : Int32)) (.int (1 : Int32)) .null (.int (0 : Int32)) (.int (1 : Int32)) (.int (0 : Int32)))), (sl, (IA Z .int x0)), (rv, (IA Z .int (List.replicate 16 0))), (va, (IA Z .int (a :: List.replicate 15 0))), (le, (LA Z ((0 : Int64) :: List.replicate 15 0))), (ss, (IA Z .byte (4 :: List.replicate 15 0))), (il, (ShAL Z (.int (0 : Int32)) dv (.int (0 : Int32)))), (u1, (IA Z .int [b])), (u0, (IA Z .int [a]))] 258 #[.val (.int a), .val (.int b), .val (.int flags), .val (.ref t), .val (.ref u0), .val (.ref u1), .val (.int (0 : Int32)), .val (.int (1 : Int32)), .val (.int (1 : Int32)), .val (.int (0 : Int32)), .val (.int (0 : Int32)), .val (.int (0 : Int32)), .val (.int (1 : Int32))] [(.int (0 : Int32))]
        refine W.ifN at_258 (by decide) (pc' := 261) rfl ?_
        refine W.iconst (1 : Int32) at_261 (pc' := 262) rfl rfl ?_
        refine W.goto at_262 (pc' := 266) (by decide) rfl ?_
        refine W.istore #[.val (.int a), .val (.int b), .val (.int flags), .val (.ref t), .val (.ref u0), .val (.ref u1), .val (.int (0 : Int32)), .val (.int (1 : Int32)), .val (.int (1 : Int32)), .val (.int (0 : Int32)), .val (.int (0 : Int32)), .val (.int (0 : Int32)), .val (.int (1 : Int32))] at_266 (pc' := 268) rfl rfl ?_
        refine W.iload at_268 (pc' := 270) rfl rfl ?_
        refine W.ifN at_270 (by decide) (pc' := 273) rfl ?_
        refine W.aloadN at_273 (pc' := 274) rfl rfl rfl ?_
        refine W.callV 0 rfl (mG12 l Z n0 a0 hw [(u1, (IA Z .int [b])), (u0, (IA Z .int [a]))] dv hdr t sl ix il rv va le ss a _) at_274 (wd hw 170 rfl) (wd hw 171 rfl) (wd hw 173 rfl) (wd hw 172 rfl) (wd hw 2 rfl) (wd hw 174 rfl) rfl (by decide) pd12 rfl rfl (Nat.le_of_ble_eq_true rfl) (Nat.le_of_ble_eq_true rfl) (Nat.le_of_ble_eq_true rfl) (Nat.le_of_ble_eq_true rfl) rfl (pc' := 277) rfl ?_
        intro v9 s9 q9
        rw [q9.1, q9.2]
        clear q9 v9 s9
        show W _ _ _ _ _ _ 12 134 [(t, (ShTS Z (.ref sl) (.ref ix) (.ref il) (.ref rv) (.int (1 : Int32)) (.ref va) (.ref le) (.ref ss) (.int (0 : Int32)) (.int (1 : Int32)) .null (.int (0 : Int32)) (.int (1 : Int32)) (.int (0 : Int32)))), (sl, (IA Z .int x0)), (rv, (IA Z .int (List.replicate 16 0))), (va, (IA Z .int (a :: List.replicate 15 0))), (le, (LA Z ((0 : Int64) :: List.replicate 15 0))), (ss, (IA Z .byte (4 :: List.replicate 15 0))), (il, (ShAL Z (.int (0 : Int32)) dv (.int (0 : Int32)))), (u1, (IA Z .int [b])), (u0, (IA Z .int [a]))] 277 #[.val (.int a), .val (.int b), .val (.int flags), .val (.ref t), .val (.ref u0), .val (.ref u1), .val (.int (0 : Int32)), .val (.int (1 : Int32)), .val (.int (1 : Int32)), .val (.int (0 : Int32)), .val (.int (0 : Int32)), .val (.int (0 : Int32)), .val (.int (1 : Int32))] [(.int (0 : Int32))]
        refine W.iload at_277 (pc' := 279) rfl rfl ?_
        refine W.icmpN at_279 (by decide) (pc' := 282) rfl ?_
        refine W.iconst (1 : Int32) at_282 (pc' := 283) rfl rfl ?_
        refine W.goto at_283 (pc' := 287) (by decide) rfl ?_
        refine W.istore #[.val (.int a), .val (.int b), .val (.int flags), .val (.ref t), .val (.ref u0), .val (.ref u1), .val (.int (0 : Int32)), .val (.int (1 : Int32)), .val (.int (1 : Int32)), .val (.int (0 : Int32)), .val (.int (0 : Int32)), .val (.int (0 : Int32)), .val (.int (1 : Int32))] at_287 (pc' := 289) rfl rfl ?_
        refine W.iload at_289 (pc' := 291) rfl rfl ?_
        exact W.retN (t := .boolean) 1 at_291 rfl (by simp) rfl (by decide) (by decide) rfl
      · refine W.ifN at_99 (XT.i0_eq_f f3) (pc' := 102) rfl ?_
        refine W.iconst (1 : Int32) at_102 (pc' := 103) rfl rfl ?_
        refine W.goto at_103 (pc' := 107) (by decide) rfl ?_
        refine W.istore #[.val (.int a), .val (.int b), .val (.int flags), .val (.ref t), .val (.ref u0), .val (.ref u1), .val (.int (0 : Int32)), .val (.int (1 : Int32)), .val (.int (1 : Int32)), .val (.int (0 : Int32)), .val (.int (1 : Int32)), .unset, .unset] at_107 (pc' := 109) rfl rfl ?_
        refine W.iload at_109 (pc' := 111) rfl rfl ?_
        refine W.ifN at_111 (by decide) (pc' := 114) rfl ?_
        refine W.aloadN at_114 (pc' := 115) rfl rfl rfl ?_
        refine W.iconst (0 : Int32) at_115 (pc' := 116) rfl rfl ?_
        refine W.callV 0 rfl (mRem7 l Z n0 a0 hw [(u1, (IA Z .int [b])), (u0, (IA Z .int [a]))] dv hdr t sl ix il rv va le ss a) at_116 (wd hw 139 rfl) (wd hw 140 rfl) (wd hw 142 rfl) (wd hw 141 rfl) (wd hw 2 rfl) (wd hw 143 rfl) rfl (by decide) pd9 rfl rfl (Nat.le_of_ble_eq_true rfl) (Nat.le_of_ble_eq_true rfl) (Nat.le_of_ble_eq_true rfl) (Nat.le_of_ble_eq_true rfl) rfl (pc' := 119) rfl ?_
        rintro _ _ ⟨rfl, x0, hl1, hk1, rfl⟩
        show W _ _ _ _ _ _ 12 134 [(t, (ShTS Z (.ref sl) (.ref ix) (.ref il) (.ref rv) (.int (1 : Int32)) (.ref va) (.ref le) (.ref ss) (.int (0 : Int32)) (.int (1 : Int32)) .null (.int (1 : Int32)) (.int (0 : Int32)) (.int (0 : Int32)))), (sl, (IA Z .int x0)), (rv, (IA Z .int (List.replicate 16 0))), (va, (IA Z .int (a :: List.replicate 15 0))), (le, (LA Z ((0 : Int64) :: List.replicate 15 0))), (ss, (IA Z .byte (3 :: List.replicate 15 0))), (il, (ShAL Z (.int (0 : Int32)) dv (.int (0 : Int32)))), (u1, (IA Z .int [b])), (u0, (IA Z .int [a]))] 119 #[.val (.int a), .val (.int b), .val (.int flags), .val (.ref t), .val (.ref u0), .val (.ref u1), .val (.int (0 : Int32)), .val (.int (1 : Int32)), .val (.int (1 : Int32)), .val (.int (0 : Int32)), .val (.int (1 : Int32)), .unset, .unset] []
        refine W.iload at_119 (pc' := 121) rfl rfl ?_
        refine W.ifN at_121 (by decide) (pc' := 124) rfl ?_
        refine W.aloadN at_124 (pc' := 125) rfl rfl rfl ?_
        refine W.callV 0 rfl (mBC8 l Z n0 a0 hw [(u1, (IA Z .int [b])), (u0, (IA Z .int [a]))] dv hdr t sl ix il rv va le ss a _) at_125 (wd hw 146 rfl) (wd hw 147 rfl) (wd hw 149 rfl) (wd hw 148 rfl) (wd hw 2 rfl) (wd hw 150 rfl) rfl (by decide) pd0 rfl rfl (Nat.le_of_ble_eq_true rfl) (Nat.le_of_ble_eq_true rfl) (Nat.le_of_ble_eq_true rfl) (Nat.le_of_ble_eq_true rfl) rfl (pc' := 128) rfl ?_
        intro v9 s9 q9
        rw [q9.1, q9.2]
        clear q9 v9 s9
        show W _ _ _ _ _ _ 12 134 [(t, (ShTS Z (.ref sl) (.ref ix) (.ref il) (.ref rv) (.int (1 : Int32)) (.ref va) (.ref le) (.ref ss) (.int (0 : Int32)) (.int (1 : Int32)) .null (.int (0 : Int32)) (.int (1 : Int32)) (.int (0 : Int32)))), (sl, (IA Z .int x0)), (rv, (IA Z .int (List.replicate 16 0))), (va, (IA Z .int (a :: List.replicate 15 0))), (le, (LA Z ((0 : Int64) :: List.replicate 15 0))), (ss, (IA Z .byte (4 :: List.replicate 15 0))), (il, (ShAL Z (.int (0 : Int32)) dv (.int (0 : Int32)))), (u1, (IA Z .int [b])), (u0, (IA Z .int [a]))] 128 #[.val (.int a), .val (.int b), .val (.int flags), .val (.ref t), .val (.ref u0), .val (.ref u1), .val (.int (0 : Int32)), .val (.int (1 : Int32)), .val (.int (1 : Int32)), .val (.int (0 : Int32)), .val (.int (1 : Int32)), .unset, .unset] []
        refine W.iload at_128 (pc' := 130) rfl rfl ?_
        refine W.ifY at_130 (by decide) (by decide) (pc' := 138) rfl ?_
        refine W.aloadN at_138 (pc' := 139) rfl rfl rfl ?_
        refine W.callV 0 rfl (mBC13 l Z n0 a0 hw [(u1, (IA Z .int [b])), (u0, (IA Z .int [a]))] dv hdr t sl ix il rv va le ss a _) at_139 (wd hw 146 rfl) (wd hw 147 rfl) (wd hw 149 rfl) (wd hw 148 rfl) (wd hw 2 rfl) (wd hw 150 rfl) rfl (by decide) pd0 rfl rfl (Nat.le_of_ble_eq_true rfl) (Nat.le_of_ble_eq_true rfl) (Nat.le_of_ble_eq_true rfl) (Nat.le_of_ble_eq_true rfl) rfl (pc' := 142) rfl ?_
        intro v9 s9 q9
        rw [q9.1, q9.2]
        clear q9 v9 s9
        show W _ _ _ _ _ _ 12 134 [(t, (ShTS Z (.ref sl) (.ref ix) (.ref il) (.ref rv) (.int (1 : Int32)) (.ref va) (.ref le) (.ref ss) (.int (0 : Int32)) (.int (1 : Int32)) .null (.int (0 : Int32)) (.int (1 : Int32)) (.int (0 : Int32)))), (sl, (IA Z .int x0)), (rv, (IA Z .int (List.replicate 16 0))), (va, (IA Z .int (a :: List.replicate 15 0))), (le, (LA Z ((0 : Int64) :: List.replicate 15 0))), (ss, (IA Z .byte (4 :: List.replicate 15 0))), (il, (ShAL Z (.int (0 : Int32)) dv (.int (0 : Int32)))), (u1, (IA Z .int [b])), (u0, (IA Z .int [a]))] 142 #[.val (.int a), .val (.int b), .val (.int flags), .val (.ref t), .val (.ref u0), .val (.ref u1), .val (.int (0 : Int32)), .val (.int (1 : Int32)), .val (.int (1 : Int32)), .val (.int (0 : Int32)), .val (.int (1 : Int32)), .unset, .unset] []
        refine W.iload at_142 (pc' := 144) rfl rfl ?_
        refine W.iload at_144 (pc' := 146) rfl rfl ?_
        refine W.ifN at_146 (by decide) (pc' := 149) rfl ?_
        refine W.iconst (1 : Int32) at_149 (pc' := 150) rfl rfl ?_
        refine W.goto at_150 (pc' := 154) (by decide) rfl ?_
        refine W.isub at_154 (pc' := 155) rfl ?_
        refine W.topI (0 : Int32) (by decide) ?_
        refine W.iload at_155 (pc' := 157) rfl rfl ?_
        refine W.ifY at_157 (by decide) (by decide) (pc' := 164) rfl ?_
        refine W.iconst (0 : Int32) at_164 (pc' := 165) rfl rfl ?_
        refine W.isub at_165 (pc' := 166) rfl ?_
        refine W.topI (0 : Int32) (by decide) ?_
        refine W.istore #[.val (.int a), .val (.int b), .val (.int flags), .val (.ref t), .val (.ref u0), .val (.ref u1), .val (.int (0 : Int32)), .val (.int (1 : Int32)), .val (.int (1 : Int32)), .val (.int (0 : Int32)), .val (.int (1 : Int32)), .val (.int (0 : Int32)), .unset] at_166 (pc' := 168) rfl rfl ?_
        refine W.aloadN at_168 (pc' := 169) rfl rfl rfl ?_
        refine W.iconst (0 : Int32) at_169 (pc' := 170) rfl rfl ?_
        refine W.callV 0 rfl (mG9 l Z n0 a0 hw [(u1, (IA Z .int [b])), (u0, (IA Z .int [a]))] dv hdr t sl ix il rv va le ss a _) at_170 (wd hw 155 rfl) (wd hw 156 rfl) (wd hw 158 rfl) (wd hw 157 rfl) (wd hw 2 rfl) (wd hw 159 rfl) rfl (by decide) pd11 rfl rfl (Nat.le_of_ble_eq_true rfl) (Nat.le_of_ble_eq_true rfl) (Nat.le_of_ble_eq_true rfl) (Nat.le_of_ble_eq_true rfl) rfl (pc' := 173) rfl ?_
        intro v9 s9 q9
        rw [q9.1, q9.2]
        clear q9 v9 s9
        show W _ _ _ _ _ _ 12 134 [(t, (ShTS Z (.ref sl) (.ref ix) (.ref il) (.ref rv) (.int (1 : Int32)) (.ref va) (.ref le) (.ref ss) (.int (0 : Int32)) (.int (1 : Int32)) .null (.int (0 : Int32)) (.int (1 : Int32)) (.int (0 : Int32)))), (sl, (IA Z .int x0)), (rv, (IA Z .int (List.replicate 16 0))), (va, (IA Z .int (a :: List.replicate 15 0))), (le, (LA Z ((0 : Int64) :: List.replicate 15 0))), (ss, (IA Z .byte (4 :: List.replicate 15 0))), (il, (ShAL Z (.int (0 : Int32)) dv (.int (0 : Int32)))), (u1, (IA Z .int [b])), (u0, (IA Z .int [a]))] 173 #[.val (.int a), .val (.int b), .val (.int flags), .val (.ref t), .val (.ref u0), .val (.ref u1), .val (.int (0 : Int32)), .val (.int (1 : Int32)), .val (.int (1 : Int32)), .val (.int (0 : Int32)), .val (.int (1 : Int32)), .val (.int (0 : Int32)), .unset] [(.int (4 : Int32))]
        refine W.iload at_173 (pc' := 175) rfl rfl ?_
        refine W.ifN at_175 (by decide) (pc' := 178) rfl ?_
        refine W.iconst (4 : Int32) at_178 (pc' := 179) rfl rfl ?_
        refine W.goto at_179 (pc' := 183) (by decide) rfl ?_
        refine W.icmpN at_183 (by decide) (pc' := 186) rfl ?_
        refine W.iconst (1 : Int32) at_186 (pc' := 187) rfl rfl ?_
        refine W.goto at_187 (pc' := 191) (by decide) rfl ?_
        refine W.istore #[.val (.int a), .val (.int b), .val (.int flags), .val (.ref t), .val (.ref u0), .val (.ref u1), .val (.int (0 : Int32)), .val (.int (1 : Int32)), .val (.int (1 : Int32)), .val (.int (0 : Int32)), .val (.int (1 : Int32)), .val (.int (0 : Int32)), .val (.int (1 : Int32))] at_191 (pc' := 193) rfl rfl ?_
        refine W.iload at_193 (pc' := 195) rfl rfl ?_
        refine W.ifY at_195 (by decide) (by decide) (pc' := 228) rfl ?_
        refine W.iload at_228 (pc' := 230) rfl rfl ?_
        refine W.ifN at_230 (by decide) (pc' := 233) rfl ?_
        refine W.aloadN at_233 (pc' := 234) rfl rfl rfl ?_
        refine W.callV 0 rfl (mG10 l Z n0 a0 hw [(u1, (IA Z .int [b])), (u0, (IA Z .int [a]))] dv hdr t sl ix il rv va le ss a _) at_234 (wd hw 160 rfl) (wd hw 161 rfl) (wd hw 163 rfl) (wd hw 162 rfl) (wd hw 2 rfl) (wd hw 164 rfl) rfl (by decide) pd12 rfl rfl (Nat.le_of_ble_eq_true rfl) (Nat.le_of_ble_eq_true rfl) (Nat.le_of_ble_eq_true rfl) (Nat.le_of_ble_eq_true rfl) rfl (pc' := 237) rfl ?_
        intro v9 s9 q9
        rw [q9.1, q9.2]
        clear q9 v9 s9
        show W _ _ _ _ _ _ 12 134 [(t, (ShTS Z (.ref sl) (.ref ix) (.ref il) (.ref rv) (.int (1 : Int32)) (.ref va) (.ref le) (.ref ss) (.int (0 : Int32)) (.int (1 : Int32)) .null (.int (0 : Int32)) (.int (1 : Int32)) (.int (0 : Int32)))), (sl, (IA Z .int x0)), (rv, (IA Z .int (List.replicate 16 0))), (va, (IA Z .int (a :: List.replicate 15 0))), (le, (LA Z ((0 : Int64) :: List.replicate 15 0))), (ss, (IA Z .byte (4 :: List.replicate 15 0))), (il, (ShAL Z (.int (0 : Int32)) dv (.int (0 : Int32)))), (u1, (IA Z .int [b])), (u0, (IA Z .int [a]))] 237 #[.val (.int a), .val (.int b), .val (.int flags), .val (.ref t), .val (.ref u0), .val (.ref u1), .val (.int (0 : Int32)), .val (.int (1 : Int32)), .val (.int (1 : Int32)), .val (.int (0 : Int32)), .val (.int (1 : Int32)), .val (.int (0 : Int32)), .val (.int (1 : Int32))] [(.int (1 : Int32))]
        refine W.iload at_237 (pc' := 239) rfl rfl ?_
        refine W.icmpN at_239 (by decide) (pc' := 242) rfl ?_
        refine W.iconst (1 : Int32) at_242 (pc' := 243) rfl rfl ?_
        refine W.goto at_243 (pc' := 247) (by decide) rfl ?_
        refine W.istore #[.val (.int a), .val (.int b), .val (.int flags), .val (.ref t), .val (.ref u0), .val (.ref u1), .val (.int (0 : Int32)), .val (.int (1 : Int32)), .val (.int (1 : Int32)), .val (.int (0 : Int32)), .val (.int (1 : Int32)), .val (.int (0 : Int32)), .val (.int (1 : Int32))] at_247 (pc' := 249) rfl rfl ?_
        refine W.iload at_249 (pc' := 251) rfl rfl ?_
        refine W.ifN at_251 (by decide) (pc' := 254) rfl ?_
        refine W.aloadN at_254 (pc' := 255) rfl rfl rfl ?_
        refine W.callV 0 rfl (mG11 l Z n0 a0 hw [(u1, (IA Z .int [b])), (u0, (IA Z .int [a]))] dv hdr t sl ix il rv va le ss a _) at_255 (wd hw 165 rfl) (wd hw 166 rfl) (wd hw 168 rfl) (wd hw 167 rfl) (wd hw 2 rfl) (wd hw 169 rfl) rfl (by decide) pd12 rfl rfl (Nat.le_of_ble_eq_true rfl) (Nat.le_of_ble_eq_true rfl) (Nat.le_of_ble_eq_true rfl) (Nat.le_of_ble_eq_true rfl) rfl (pc' := 258) rfl ?_
        intro v9 s9 q9
        rw [q9.1, q9.2]
        clear q9 v9 s9
        show W _ _ _ _ _ _ 12 134 [(t, (ShTS Z (.ref sl) (.ref ix) (.ref il) (.ref rv) (.int (1 : Int32)) (.ref va) (.ref le) (.ref ss) (.int (0 : Int32)) (.int (1 : Int32)) .null (.int (0 : Int32)) (.int (1 : Int32)) (.int (0 : Int32)))), (sl, (IA Z .int x0)), (rv, (IA Z .int (List.replicate 16 0))), (va, (IA Z .int (a :: List.replicate 15 0))), (le, (LA Z ((0 : Int64) :: List.replicate 15 0))), (ss, (IA Z .byte (4 :: List.replicate 15 0))), (il, (ShAL Z (.int (0 : Int32)) dv (.int (0 : Int32)))), (u1, (IA Z .int [b])), (u0, (IA Z .int [a]))] 258 #[.val (.int a), .val (.int b), .val (.int flags), .val (.ref t), .val (.ref u0), .val (.ref u1), .val (.int (0 : Int32)), .val (.int (1 : Int32)), .val (.int (1 : Int32)), .val (.int (0 : Int32)), .val (.int (1 : Int32)), .val (.int (0 : Int32)), .val (.int (1 : Int32))] [(.int (0 : Int32))]
        refine W.ifN at_258 (by decide) (pc' := 261) rfl ?_
        refine W.iconst (1 : Int32) at_261 (pc' := 262) rfl rfl ?_
        refine W.goto at_262 (pc' := 266) (by decide) rfl ?_
        refine W.istore #[.val (.int a), .val (.int b), .val (.int flags), .val (.ref t), .val (.ref u0), .val (.ref u1), .val (.int (0 : Int32)), .val (.int (1 : Int32)), .val (.int (1 : Int32)), .val (.int (0 : Int32)), .val (.int (1 : Int32)), .val (.int (0 : Int32)), .val (.int (1 : Int32))] at_266 (pc' := 268) rfl rfl ?_
        refine W.iload at_268 (pc' := 270) rfl rfl ?_
        refine W.ifN at_270 (by decide) (pc' := 273) rfl ?_
        refine W.aloadN at_273 (pc' := 274) rfl rfl rfl ?_
        refine W.callV 0 rfl (mG12 l Z n0 a0 hw [(u1, (IA Z .int [b])), (u0, (IA Z .int [a]))] dv hdr t sl ix il rv va le ss a _) at_274 (wd hw 170 rfl) (wd hw 171 rfl) (wd hw 173 rfl) (wd hw 172 rfl) (wd hw 2 rfl) (wd hw 174 rfl) rfl (by decide) pd12 rfl rfl (Nat.le_of_ble_eq_true rfl) (Nat.le_of_ble_eq_true rfl) (Nat.le_of_ble_eq_true rfl) (Nat.le_of_ble_eq_true rfl) rfl (pc' := 277) rfl ?_
        intro v9 s9 q9
        rw [q9.1, q9.2]
        clear q9 v9 s9
        show W _ _ _ _ _ _ 12 134 [(t, (ShTS Z (.ref sl) (.ref ix) (.ref il) (.ref rv) (.int (1 : Int32)) (.ref va) (.ref le) (.ref ss) (.int (0 : Int32)) (.int (1 : Int32)) .null (.int (0 : Int32)) (.int (1 : Int32)) (.int (0 : Int32)))), (sl, (IA Z .int x0)), (rv, (IA Z .int (List.replicate 16 0))), (va, (IA Z .int (a :: List.replicate 15 0))), (le, (LA Z ((0 : Int64) :: List.replicate 15 0))), (ss, (IA Z .byte (4 :: List.replicate 15 0))), (il, (ShAL Z (.int (0 : Int32)) dv (.int (0 : Int32)))), (u1, (IA Z .int [b])), (u0, (IA Z .int [a]))] 277 #[.val (.int a), .val (.int b), .val (.int flags), .val (.ref t), .val (.ref u0), .val (.ref u1), .val (.int (0 : Int32)), .val (.int (1 : Int32)), .val (.int (1 : Int32)), .val (.int (0 : Int32)), .val (.int (1 : Int32)), .val (.int (0 : Int32)), .val (.int (1 : Int32))] [(.int (0 : Int32))]
        refine W.iload at_277 (pc' := 279) rfl rfl ?_
        refine W.icmpN at_279 (by decide) (pc' := 282) rfl ?_
        refine W.iconst (1 : Int32) at_282 (pc' := 283) rfl rfl ?_
        refine W.goto at_283 (pc' := 287) (by decide) rfl ?_
        refine W.istore #[.val (.int a), .val (.int b), .val (.int flags), .val (.ref t), .val (.ref u0), .val (.ref u1), .val (.int (0 : Int32)), .val (.int (1 : Int32)), .val (.int (1 : Int32)), .val (.int (0 : Int32)), .val (.int (1 : Int32)), .val (.int (0 : Int32)), .val (.int (1 : Int32))] at_287 (pc' := 289) rfl rfl ?_
        refine W.iload at_289 (pc' := 291) rfl rfl ?_
        exact W.retN (t := .boolean) 1 at_291 rfl (by simp) rfl (by decide) (by decide) rfl
  · refine W.pulls [(t, (ShTS Z (.ref sl) (.ref ix) (.ref il) (.ref rv) (.int (1 : Int32)) (.ref va) (.ref le) (.ref ss) (.int (1 : Int32)) (.int (1 : Int32)) .null (.int (0 : Int32)) (.int (0 : Int32)) (.int (0 : Int32)))), (sl, (IA Z .int (own_one (own_s a)))), (rv, (IA Z .int (List.replicate 16 0))), (va, (IA Z .int (a :: List.replicate 15 0))), (le, (LA Z ((0 : Int64) :: List.replicate 15 0))), (ss, (IA Z .byte (List.replicate 16 0))), (il, (ShAL Z (.int (0 : Int32)) dv (.int (0 : Int32)))), (u1, (IA Z .int [b])), (u0, (IA Z .int [a]))] [8, 7, 7, 7, 7, 7, 7, 7] rfl ?_
    refine W.callV 0 rfl (mAN l Z n0 a0 hw [(u0, (IA Z .int [a]))] dv hdr t sl ix il rv va le ss u1 a b hab) at_37 (wd hw 68 rfl) (wd hw 69 rfl) (wd hw 71 rfl) (wd hw 70 rfl) (wd hw 2 rfl) (wd hw 72 rfl) rfl (by decide) pd10 rfl rfl (Nat.le_of_ble_eq_true rfl) (Nat.le_of_ble_eq_true rfl) (Nat.le_of_ble_eq_true rfl) (Nat.le_of_ble_eq_true rfl) rfl (pc' := 40) rfl ?_
    intro v9 s9 q9
    rw [q9.1, q9.2]
    clear q9 v9 s9
    show W _ _ _ _ _ _ 12 134 [(t, (ShTS Z (.ref sl) (.ref ix) (.ref il) (.ref rv) (.int (1 : Int32)) (.ref va) (.ref le) (.ref ss) (.int (2 : Int32)) (.int (2 : Int32)) .null (.int (0 : Int32)) (.int (0 : Int32)) (.int (0 : Int32)))), (sl, (IA Z .int (own_two (own_s a) (own_pb a b)))), (rv, (IA Z .int (List.replicate 16 0))), (va, (IA Z .int (a :: b :: List.replicate 14 0))), (le, (LA Z ((0 : Int64) :: (0 : Int64) :: List.replicate 14 0))), (ss, (IA Z .byte (List.replicate 16 0))), (il, (ShAL Z (.int (0 : Int32)) dv (.int (0 : Int32)))), (u1, (IA Z .int [b])), (u0, (IA Z .int [a]))] 40 #[.val (.int a), .val (.int b), .val (.int flags), .val (.ref t), .val (.ref u0), .val (.ref u1), .unset, .unset, .unset, .unset, .unset, .unset, .unset] [(.int (1 : Int32))]
    refine W.pop at_40 (pc' := 41) rfl rfl ?_
    refine W.iloadN at_41 (pc' := 42) rfl rfl ?_
    refine W.iloadN at_42 (pc' := 43) rfl rfl ?_
    refine W.icmpN at_43 (XT.ii_eq_f hab) (pc' := 46) rfl ?_
    refine W.iconst (1 : Int32) at_46 (pc' := 47) rfl rfl ?_
    refine W.goto at_47 (pc' := 51) (by decide) rfl ?_
    refine W.istore #[.val (.int a), .val (.int b), .val (.int flags), .val (.ref t), .val (.ref u0), .val (.ref u1), .val (.int (1 : Int32)), .unset, .unset, .unset, .unset, .unset, .unset] at_51 (pc' := 53) rfl rfl ?_
    refine W.iload at_53 (pc' := 55) rfl rfl ?_
    refine W.ifN at_55 (by decide) (pc' := 58) rfl ?_
    refine W.iconst (2 : Int32) at_58 (pc' := 59) rfl rfl ?_
    refine W.goto at_59 (pc' := 63) (by decide) rfl ?_
    refine W.istore #[.val (.int a), .val (.int b), .val (.int flags), .val (.ref t), .val (.ref u0), .val (.ref u1), .val (.int (1 : Int32)), .val (.int (2 : Int32)), .unset, .unset, .unset, .unset, .unset] at_63 (pc' := 65) rfl rfl ?_
    refine W.iloadN at_65 (pc' := 66) rfl rfl ?_
    refine W.iconst (1 : Int32) at_66 (pc' := 67) rfl rfl ?_
    refine W.iand at_67 (pc' := 68) rfl ?_
    by_cases f1 : (flags &&& (1 : Int32)) = 0
    · refine W.ifY at_68 (XT.i0_eq_t f1) (by decide) (pc' := 75) rfl ?_
      refine W.iconst (0 : Int32) at_75 (pc' := 76) rfl rfl ?_
      refine W.istore #[.val (.int a), .val (.int b), .val (.int flags), .val (.ref t), .val (.ref u0), .val (.ref u1), .val (.int (1 : Int32)), .val (.int (2 : Int32)), .val (.int (0 : Int32)), .unset, .unset, .unset, .unset] at_76 (pc' := 78) rfl rfl ?_
      refine W.iload at_78 (pc' := 80) rfl rfl ?_
      refine W.ifN at_80 (by decide) (pc' := 83) rfl ?_
      refine W.iloadN at_83 (pc' := 84) rfl rfl ?_
      refine W.iconst (2 : Int32) at_84 (pc' := 85) rfl rfl ?_
      refine W.iand at_85 (pc' := 86) rfl ?_
      by_cases f2 : (flags &&& (2 : Int32)) = 0
      · refine W.ifY at_86 (XT.i0_eq_t f2) (by decide) (pc' := 93) rfl ?_
        refine W.iconst (0 : Int32) at_93 (pc' := 94) rfl rfl ?_
        refine W.istore #[.val (.int a), .val (.int b), .val (.int flags), .val (.ref t), .val (.ref u0), .val (.ref u1), .val (.int (1 : Int32)), .val (.int (2 : Int32)), .val (.int (0 : Int32)), .val (.int (0 : Int32)), .unset, .unset, .unset] at_94 (pc' := 96) rfl rfl ?_
        refine W.iloadN at_96 (pc' := 97) rfl rfl ?_
        refine W.iconst (4 : Int32) at_97 (pc' := 98) rfl rfl ?_
        refine W.iand at_98 (pc' := 99) rfl ?_
        by_cases f3 : (flags &&& (4 : Int32)) = 0
        · refine W.ifY at_99 (XT.i0_eq_t f3) (by decide) (pc' := 106) rfl ?_
          refine W.iconst (0 : Int32) at_106 (pc' := 107) rfl rfl ?_
          refine W.istore #[.val (.int a), .val (.int b), .val (.int flags), .val (.ref t), .val (.ref u0), .val (.ref u1), .val (.int (1 : Int32)), .val (.int (2 : Int32)), .val (.int (0 : Int32)), .val (.int (0 : Int32)), .val (.int (0 : Int32)), .unset, .unset] at_107 (pc' := 109) rfl rfl ?_
          refine W.iload at_109 (pc' := 111) rfl rfl ?_
          refine W.ifY at_111 (by decide) (by decide) (pc' := 119) rfl ?_
          refine W.iload at_119 (pc' := 121) rfl rfl ?_
          refine W.ifY at_121 (by decide) (by decide) (pc' := 128) rfl ?_
          refine W.iload at_128 (pc' := 130) rfl rfl ?_
          refine W.ifY at_130 (by decide) (by decide) (pc' := 138) rfl ?_
          refine W.aloadN at_138 (pc' := 139) rfl rfl rfl ?_
          refine W.callV 0 rfl (mBC14 l Z n0 a0 hw [(u1, (IA Z .int [b])), (u0, (IA Z .int [a]))] dv hdr t sl ix il rv va le ss a b _) at_139 (wd hw 146 rfl) (wd hw 147 rfl) (wd hw 149 rfl) (wd hw 148 rfl) (wd hw 2 rfl) (wd hw 150 rfl) rfl (by decide) pd0 rfl rfl (Nat.le_of_ble_eq_true rfl) (Nat.le_of_ble_eq_true rfl) (Nat.le_of_ble_eq_true rfl) (Nat.le_of_ble_eq_true rfl) rfl (pc' := 142) rfl ?_
          intro v9 s9 q9
          rw [q9.1, q9.2]
          clear q9 v9 s9
          show W _ _ _ _ _ _ 12 134 [(t, (ShTS Z (.ref sl) (.ref ix) (.ref il) (.ref rv) (.int (1 : Int32)) (.ref va) (.ref le) (.ref ss) (.int (2 : Int32)) (.int (2 : Int32)) .null (.int (0 : Int32)) (.int (2 : Int32)) (.int (2 : Int32)))), (sl, (IA Z .int (own_two (own_s a) (own_pb a b)))), (rv, (IA Z .int (List.replicate 16 0))), (va, (IA Z .int (a :: b :: List.replicate 14 0))), (le, (LA Z ((0 : Int64) :: (0 : Int64) :: List.replicate 14 0))), (ss, (IA Z .byte (List.replicate 16 0))), (il, (ShAL Z (.int (0 : Int32)) dv (.int (0 : Int32)))), (u1, (IA Z .int [b])), (u0, (IA Z .int [a]))] 142 #[.val (.int a), .val (.int b), .val (.int flags), .val (.ref t), .val (.ref u0), .val (.ref u1), .val (.int (1 : Int32)), .val (.int (2 : Int32)), .val (.int (0 : Int32)), .val (.int (0 : Int32)), .val (.int (0 : Int32)), .unset, .unset] []
          refine W.iload at_142 (pc' := 144) rfl rfl ?_
          refine W.iload at_144 (pc' := 146) rfl rfl ?_
          refine W.ifY at_146 (by decide) (by decide) (pc' := 153) rfl ?_
          refine W.iconst (0 : Int32) at_153 (pc' := 154) rfl rfl ?_
          refine W.isub at_154 (pc' := 155) rfl ?_
          refine W.topI (2 : Int32) (by decide) ?_
          refine W.iload at_155 (pc' := 157) rfl rfl ?_
          refine W.ifY at_157 (by decide) (by decide) (pc' := 164) rfl ?_
          refine W.iconst (0 : Int32) at_164 (pc' := 165) rfl rfl ?_
          refine W.isub at_165 (pc' := 166) rfl ?_
          refine W.topI (2 : Int32) (by decide) ?_
          refine W.istore #[.val (.int a), .val (.int b), .val (.int flags), .val (.ref t), .val (.ref u0), .val (.ref u1), .val (.int (1 : Int32)), .val (.int (2 : Int32)), .val (.int (0 : Int32)), .val (.int (0 : Int32)), .val (.int (0 : Int32)), .val (.int (2 : Int32)), .unset] at_166 (pc' := 168) rfl rfl ?_
          refine W.aloadN at_168 (pc' := 169) rfl rfl rfl ?_
          refine W.iconst (0 : Int32) at_169 (pc' := 170) rfl rfl ?_
          refine W.callV 0 rfl (mG15 l Z n0 a0 hw [(u1, (IA Z .int [b])), (u0, (IA Z .int [a]))] dv hdr t sl ix il rv va le ss a b _) at_170 (wd hw 155 rfl) (wd hw 156 rfl) (wd hw 158 rfl) (wd hw 157 rfl) (wd hw 2 rfl) (wd hw 159 rfl) rfl (by decide) pd11 rfl rfl (Nat.le_of_ble_eq_true rfl) (Nat.le_of_ble_eq_true rfl) (Nat.le_of_ble_eq_true rfl) (Nat.le_of_ble_eq_true rfl) rfl (pc' := 173) rfl ?_
          intro v9 s9 q9
          rw [q9.1, q9.2]
          clear q9 v9 s9
          show W _ _ _ _ _ _ 12 134 [(t, (ShTS Z (.ref sl) (.ref ix) (.ref il) (.ref rv) (.int (1 : Int32)) (.ref va) (.ref le) (.ref ss) (.int (2 : Int32)) (.int (2 : Int32)) .null (.int (0 : Int32)) (.int (2 : Int32)) (.int (2 : Int32)))), (sl, (IA Z .int (own_two (own_s a) (own_pb a b)))), (rv, (IA Z .int (List.replicate 16 0))), (va, (IA Z .int (a :: b :: List.replicate 14 0))), (le, (LA Z ((0 : Int64) :: (0 : Int64) :: List.replicate 14 0))), (ss, (IA Z .byte (List.replicate 16 0))), (il, (ShAL Z (.int (0 : Int32)) dv (.int (0 : Int32)))), (u1, (IA Z .int [b])), (u0, (IA Z .int [a]))] 173 #[.val (.int a), .val (.int b), .val (.int flags), .val (.ref t), .val (.ref u0), .val (.ref u1), .val (.int (1 : Int32)), .val (.int (2 : Int32)), .val (.int (0 : Int32)), .val (.int (0 : Int32)), .val (.int (0 : Int32)), .val (.int (2 : Int32)), .unset] [(.int (0 : Int32))]
          refine W.iload at_173 (pc' := 175) rfl rfl ?_
          refine W.ifY at_175 (by decide) (by decide) (pc' := 182) rfl ?_
          refine W.iconst (0 : Int32) at_182 (pc' := 183) rfl rfl ?_
          refine W.icmpN at_183 (by decide) (pc' := 186) rfl ?_
          refine W.iconst (1 : Int32) at_186 (pc' := 187) rfl rfl ?_
          refine W.goto at_187 (pc' := 191) (by decide) rfl ?_
          refine W.istore #[.val (.int a), .val (.int b), .val (.int flags), .val (.ref t), .val (.ref u0), .val (.ref u1), .val (.int (1 : Int32)), .val (.int (2 : Int32)), .val (.int (0 : Int32)), .val (.int (0 : Int32)), .val (.int (0 : Int32)), .val (.int (2 : Int32)), .val (.int (1 : Int32))] at_191 (pc' := 193) rfl rfl ?_
          refine W.iload at_193 (pc' := 195) rfl rfl ?_
          refine W.ifN at_195 (by decide) (pc' := 198) rfl ?_
          refine W.iload at_198 (pc' := 200) rfl rfl ?_
          refine W.ifN at_200 (by decide) (pc' := 203) rfl ?_
          refine W.aloadN at_203 (pc' := 204) rfl rfl rfl ?_
          refine W.iconst (1 : Int32) at_204 (pc' := 205) rfl rfl ?_
          refine W.callV 0 rfl (mG16 l Z n0 a0 hw [(u1, (IA Z .int [b])), (u0, (IA Z .int [a]))] dv hdr t sl ix il rv va le ss a b _) at_205 (wd hw 155 rfl) (wd hw 156 rfl) (wd hw 158 rfl) (wd hw 157 rfl) (wd hw 2 rfl) (wd hw 159 rfl) rfl (by decide) pd11 rfl rfl (Nat.le_of_ble_eq_true rfl) (Nat.le_of_ble_eq_true rfl) (Nat.le_of_ble_eq_true rfl) (Nat.le_of_ble_eq_true rfl) rfl (pc' := 208) rfl ?_
          intro v9 s9 q9
          rw [q9.1, q9.2]
          clear q9 v9 s9
          show W _ _ _ _ _ _ 12 134 [(t, (ShTS Z (.ref sl) (.ref ix) (.ref il) (.ref rv) (.int (1 : Int32)) (.ref va) (.ref le) (.ref ss) (.int (2 : Int32)) (.int (2 : Int32)) .null (.int (0 : Int32)) (.int (2 : Int32)) (.int (2 : Int32)))), (sl, (IA Z .int (own_two (own_s a) (own_pb a b)))), (rv, (IA Z .int (List.replicate 16 0))), (va, (IA Z .int (a :: b :: List.replicate 14 0))), (le, (LA Z ((0 : Int64) :: (0 : Int64) :: List.replicate 14 0))), (ss, (IA Z .byte (List.replicate 16 0))), (il, (ShAL Z (.int (0 : Int32)) dv (.int (0 : Int32)))), (u1, (IA Z .int [b])), (u0, (IA Z .int [a]))] 208 #[.val (.int a), .val (.int b), .val (.int flags), .val (.ref t), .val (.ref u0), .val (.ref u1), .val (.int (1 : Int32)), .val (.int (2 : Int32)), .val (.int (0 : Int32)), .val (.int (0 : Int32)), .val (.int (0 : Int32)), .val (.int (2 : Int32)), .val (.int (1 : Int32))] [(.int (0 : Int32))]
          refine W.iload at_208 (pc' := 210) rfl rfl ?_
          refine W.ifY at_210 (by decide) (by decide) (pc' := 217) rfl ?_
          refine W.iconst (0 : Int32) at_217 (pc' := 218) rfl rfl ?_
          refine W.icmpN at_218 (by decide) (pc' := 221) rfl ?_
          refine W.iconst (1 : Int32) at_221 (pc' := 222) rfl rfl ?_
          refine W.goto at_222 (pc' := 226) (by decide) rfl ?_
          refine W.istore #[.val (.int a), .val (.int b), .val (.int flags), .val (.ref t), .val (.ref u0), .val (.ref u1), .val (.int (1 : Int32)), .val (.int (2 : Int32)), .val (.int (0 : Int32)), .val (.int (0 : Int32)), .val (.int (0 : Int32)), .val (.int (2 : Int32)), .val (.int (1 : Int32))] at_226 (pc' := 228) rfl rfl ?_
          refine W.iload at_228 (pc' := 230) rfl rfl ?_
          refine W.ifN at_230 (by decide) (pc' := 233) rfl ?_
          refine W.aloadN at_233 (pc' := 234) rfl rfl rfl ?_
          refine W.callV 0 rfl (mG17 l Z n0 a0 hw [(u1, (IA Z .int [b])), (u0, (IA Z .int [a]))] dv hdr t sl ix il rv va le ss a b _) at_234 (wd hw 160 rfl) (wd hw 161 rfl) (wd hw 163 rfl) (wd hw 162 rfl) (wd hw 2 rfl) (wd hw 164 rfl) rfl (by decide) pd12 rfl rfl (Nat.le_of_ble_eq_true rfl) (Nat.le_of_ble_eq_true rfl) (Nat.le_of_ble_eq_true rfl) (Nat.le_of_ble_eq_true rfl) rfl (pc' := 237) rfl ?_
          intro v9 s9 q9
          rw [q9.1, q9.2]
          clear q9 v9 s9
          show W _ _ _ _ _ _ 12 134 [(t, (ShTS Z (.ref sl) (.ref ix) (.ref il) (.ref rv) (.int (1 : Int32)) (.ref va) (.ref le) (.ref ss) (.int (2 : Int32)) (.int (2 : Int32)) .null (.int (0 : Int32)) (.int (2 : Int32)) (.int (2 : Int32)))), (sl, (IA Z .int (own_two (own_s a) (own_pb a b)))), (rv, (IA Z .int (List.replicate 16 0))), (va, (IA Z .int (a :: b :: List.replicate 14 0))), (le, (LA Z ((0 : Int64) :: (0 : Int64) :: List.replicate 14 0))), (ss, (IA Z .byte (List.replicate 16 0))), (il, (ShAL Z (.int (0 : Int32)) dv (.int (0 : Int32)))), (u1, (IA Z .int [b])), (u0, (IA Z .int [a]))] 237 #[.val (.int a), .val (.int b), .val (.int flags), .val (.ref t), .val (.ref u0), .val (.ref u1), .val (.int (1 : Int32)), .val (.int (2 : Int32)), .val (.int (0 : Int32)), .val (.int (0 : Int32)), .val (.int (0 : Int32)), .val (.int (2 : Int32)), .val (.int (1 : Int32))] [(.int (2 : Int32))]
          refine W.iload at_237 (pc' := 239) rfl rfl ?_
          refine W.icmpN at_239 (by decide) (pc' := 242) rfl ?_
          refine W.iconst (1 : Int32) at_242 (pc' := 243) rfl rfl ?_
          refine W.goto at_243 (pc' := 247) (by decide) rfl ?_
          refine W.istore #[.val (.int a), .val (.int b), .val (.int flags), .val (.ref t), .val (.ref u0), .val (.ref u1), .val (.int (1 : Int32)), .val (.int (2 : Int32)), .val (.int (0 : Int32)), .val (.int (0 : Int32)), .val (.int (0 : Int32)), .val (.int (2 : Int32)), .val (.int (1 : Int32))] at_247 (pc' := 249) rfl rfl ?_
          refine W.iload at_249 (pc' := 251) rfl rfl ?_
          refine W.ifN at_251 (by decide) (pc' := 254) rfl ?_
          refine W.aloadN at_254 (pc' := 255) rfl rfl rfl ?_
          refine W.callV 0 rfl (mG18 l Z n0 a0 hw [(u1, (IA Z .int [b])), (u0, (IA Z .int [a]))] dv hdr t sl ix il rv va le ss a b _) at_255 (wd hw 165 rfl) (wd hw 166 rfl) (wd hw 168 rfl) (wd hw 167 rfl) (wd hw 2 rfl) (wd hw 169 rfl) rfl (by decide) pd12 rfl rfl (Nat.le_of_ble_eq_true rfl) (Nat.le_of_ble_eq_true rfl) (Nat.le_of_ble_eq_true rfl) (Nat.le_of_ble_eq_true rfl) rfl (pc' := 258) rfl ?_
          intro v9 s9 q9
          rw [q9.1, q9.2]
          clear q9 v9 s9
          show W _ _ _ _ _ _ 12 134 [(t, (ShTS Z (.ref sl) (.ref ix) (.ref il) (.ref rv) (.int (1 : Int32)) (.ref va) (.ref le) (.ref ss) (.int (2 : Int32)) (.int (2 : Int32)) .null (.int (0 : Int32)) (.int (2 : Int32)) (.int (2 : Int32)))), (sl, (IA Z .int (own_two (own_s a) (own_pb a b)))), (rv, (IA Z .int (List.replicate 16 0))), (va, (IA Z .int (a :: b :: List.replicate 14 0))), (le, (LA Z ((0 : Int64) :: (0 : Int64) :: List.replicate 14 0))), (ss, (IA Z .byte (List.replicate 16 0))), (il, (ShAL Z (.int (0 : Int32)) dv (.int (0 : Int32)))), (u1, (IA Z .int [b])), (u0, (IA Z .int [a]))] 258 #[.val (.int a), .val (.int b), .val (.int flags), .val (.ref t), .val (.ref u0), .val (.ref u1), .val (.int (1 : Int32)), .val (.int (2 : Int32)), .val (.int (0 : Int32)), .val (.int (0 : Int32)), .val (.int (0 : Int32)), .val (.int (2 : Int32)), .val (.int (1 : Int32))] [(.int (0 : Int32))]
          refine W.ifN at_258 (by decide) (pc' := 261) rfl ?_
          refine W.iconst (1 : Int32) at_261 (pc' := 262) rfl rfl ?_
          refine W.goto at_262 (pc' := 266) (by decide) rfl ?_
          refine W.istore #[.val (.int a), .val (.int b), .val (.int flags), .val (.ref t), .val (.ref u0), .val (.ref u1), .val (.int (1 : Int32)), .val (.int (2 : Int32)), .val (.int (0 : Int32)), .val (.int (0 : Int32)), .val (.int (0 : Int32)), .val (.int (2 : Int32)), .val (.int (1 : Int32))] at_266 (pc' := 268) rfl rfl ?_
          refine W.iload at_268 (pc' := 270) rfl rfl ?_
          refine W.ifN at_270 (by decide) (pc' := 273) rfl ?_
          refine W.aloadN at_273 (pc' := 274) rfl rfl rfl ?_
          refine W.callV 0 rfl (mG19 l Z n0 a0 hw [(u1, (IA Z .int [b])), (u0, (IA Z .int [a]))] dv hdr t sl ix il rv va le ss a b _) at_274 (wd hw 170 rfl) (wd hw 171 rfl) (wd hw 173 rfl) (wd hw 172 rfl) (wd hw 2 rfl) (wd hw 174 rfl) rfl (by decide) pd12 rfl rfl (Nat.le_of_ble_eq_true rfl) (Nat.le_of_ble_eq_true rfl) (Nat.le_of_ble_eq_true rfl) (Nat.le_of_ble_eq_true rfl) rfl (pc' := 277) rfl ?_
          intro v9 s9 q9
          rw [q9.1, q9.2]
          clear q9 v9 s9
          show W _ _ _ _ _ _ 12 134 [(t, (ShTS Z (.ref sl) (.ref ix) (.ref il) (.ref rv) (.int (1 : Int32)) (.ref va) (.ref le) (.ref ss) (.int (2 : Int32)) (.int (2 : Int32)) .null (.int (0 : Int32)) (.int (2 : Int32)) (.int (2 : Int32)))), (sl, (IA Z .int (own_two (own_s a) (own_pb a b)))), (rv, (IA Z .int (List.replicate 16 0))), (va, (IA Z .int (a :: b :: List.replicate 14 0))), (le, (LA Z ((0 : Int64) :: (0 : Int64) :: List.replicate 14 0))), (ss, (IA Z .byte (List.replicate 16 0))), (il, (ShAL Z (.int (0 : Int32)) dv (.int (0 : Int32)))), (u1, (IA Z .int [b])), (u0, (IA Z .int [a]))] 277 #[.val (.int a), .val (.int b), .val (.int flags), .val (.ref t), .val (.ref u0), .val (.ref u1), .val (.int (1 : Int32)), .val (.int (2 : Int32)), .val (.int (0 : Int32)), .val (.int (0 : Int32)), .val (.int (0 : Int32)), .val (.int (2 : Int32)), .val (.int (1 : Int32))] [(.int (2 : Int32))]
          refine W.iload at_277 (pc' := 279) rfl rfl ?_
          refine W.icmpN at_279 (by decide) (pc' := 282) rfl ?_
          refine W.iconst (1 : Int32) at_282 (pc' := 283) rfl rfl ?_
          refine W.goto at_283 (pc' := 287) (by decide) rfl ?_
          refine W.istore #[.val (.int a), .val (.int b), .val (.int flags), .val (.ref t), .val (.ref u0), .val (.ref u1), .val (.int (1 : Int32)), .val (.int (2 : Int32)), .val (.int (0 : Int32)), .val (.int (0 : Int32)), .val (.int (0 : Int32)), .val (.int (2 : Int32)), .val (.int (1 : Int32))] at_287 (pc' := 289) rfl rfl ?_
          refine W.iload at_289 (pc' := 291) rfl rfl ?_
          exact W.retN (t := .boolean) 1 at_291 rfl (by simp) rfl (by decide) (by decide) rfl
        · refine W.ifN at_99 (XT.i0_eq_f f3) (pc' := 102) rfl ?_
          refine W.iconst (1 : Int32) at_102 (pc' := 103) rfl rfl ?_
          refine W.goto at_103 (pc' := 107) (by decide) rfl ?_
          refine W.istore #[.val (.int a), .val (.int b), .val (.int flags), .val (.ref t), .val (.ref u0), .val (.ref u1), .val (.int (1 : Int32)), .val (.int (2 : Int32)), .val (.int (0 : Int32)), .val (.int (0 : Int32)), .val (.int (1 : Int32)), .unset, .unset] at_107 (pc' := 109) rfl rfl ?_
          refine W.iload at_109 (pc' := 111) rfl rfl ?_
          refine W.ifY at_111 (by decide) (by decide) (pc' := 119) rfl ?_
          refine W.iload at_119 (pc' := 121) rfl rfl ?_
          refine W.ifN at_121 (by decide) (pc' := 124) rfl ?_
          refine W.aloadN at_124 (pc' := 125) rfl rfl rfl ?_
          refine W.callV 0 rfl (mBC14 l Z n0 a0 hw [(u1, (IA Z .int [b])), (u0, (IA Z .int [a]))] dv hdr t sl ix il rv va le ss a b _) at_125 (wd hw 146 rfl) (wd hw 147 rfl) (wd hw 149 rfl) (wd hw 148 rfl) (wd hw 2 rfl) (wd hw 150 rfl) rfl (by decide) pd0 rfl rfl (Nat.le_of_ble_eq_true rfl) (Nat.le_of_ble_eq_true rfl) (Nat.le_of_ble_eq_true rfl) (Nat.le_of_ble_eq_true rfl) rfl (pc' := 128) rfl ?_
          intro v9 s9 q9
          rw [q9.1, q9.2]
          clear q9 v9 s9
          show W _ _ _ _ _ _ 12 134 [(t, (ShTS Z (.ref sl) (.ref ix) (.ref il) (.ref rv) (.int (1 : Int32)) (.ref va) (.ref le) (.ref ss) (.int (2 : Int32)) (.int (2 : Int32)) .null (.int (0 : Int32)) (.int (2 : Int32)) (.int (2 : Int32)))), (sl, (IA Z .int (own_two (own_s a) (own_pb a b)))), (rv, (IA Z .int (List.replicate 16 0))), (va, (IA Z .int (a :: b :: List.replicate 14 0))), (le, (LA Z ((0 : Int64) :: (0 : Int64) :: List.replicate 14 0))), (ss, (IA Z .byte (List.replicate 16 0))), (il, (ShAL Z (.int (0 : Int32)) dv (.int (0 : Int32)))), (u1, (IA Z .int [b])), (u0, (IA Z .int [a]))] 128 #[.val (.int a), .val (.int b), .val (.int flags), .val (.ref t), .val (.ref u0), .val (.ref u1), .val (.int (1 : Int32)), .val (.int (2 : Int32)), .val (.int (0 : Int32)), .val (.int (0 : Int32)), .val (.int (1 : Int32)), .unset, .unset] []
          refine W.iload at_128 (pc' := 130) rfl rfl ?_
          refine W.ifY at_130 (by decide) (by decide) (pc' := 138) rfl ?_
          refine W.aloadN at_138 (pc' := 139) rfl rfl rfl ?_
          refine W.callV 0 rfl (mBC20 l Z n0 a0 hw [(u1, (IA Z .int [b])), (u0, (IA Z .int [a]))] dv hdr t sl ix il rv va le ss a b _) at_139 (wd hw 146 rfl) (wd hw 147 rfl) (wd hw 149 rfl) (wd hw 148 rfl) (wd hw 2 rfl) (wd hw 150 rfl) rfl (by decide) pd0 rfl rfl (Nat.le_of_ble_eq_true rfl) (Nat.le_of_ble_eq_true rfl) (Nat.le_of_ble_eq_true rfl) (Nat.le_of_ble_eq_true rfl) rfl (pc' := 142) rfl ?_
          intro v9 s9 q9
          rw [q9.1, q9.2]
          clear q9 v9 s9
          show W _ _ _ _ _ _ 12 134 [(t, (ShTS Z (.ref sl) (.ref ix) (.ref il) (.ref rv) (.int (1 : Int32)) (.ref va) (.ref le) (.ref ss) (.int (2 : Int32)) (.int (2 : Int32)) .null (.int (0 : Int32)) (.int (2 : Int32)) (.int (2 : Int32)))), (sl, (IA Z .int (own_two (own_s a) (own_pb a b)))), (rv, (IA Z .int (List.replicate 16 0))), (va, (IA Z .int (a :: b :: List.replicate 14 0))), (le, (LA Z ((0 : Int64) :: (0 : Int64) :: List.replicate 14 0))), (ss, (IA Z .byte (List.replicate 16 0))), (il, (ShAL Z (.int (0 : Int32)) dv (.int (0 : Int32)))), (u1, (IA Z .int [b])), (u0, (IA Z .int [a]))] 142 #[.val (.int a), .val (.int b), .val (.int flags), .val (.ref t), .val (.ref u0), .val (.ref u1), .val (.int (1 : Int32)), .val (.int (2 : Int32)), .val (.int (0 : Int32)), .val (.int (0 : Int32)), .val (.int (1 : Int32)), .unset, .unset] []
          refine W.iload at_142 (pc' := 144) rfl rfl ?_
          refine W.iload at_144 (pc' := 146) rfl rfl ?_
          refine W.ifY at_146 (by decide) (by decide) (pc' := 153) rfl ?_
          refine W.iconst (0 : Int32) at_153 (pc' := 154) rfl rfl ?_
          refine W.isub at_154 (pc' := 155) rfl ?_
          refine W.topI (2 : Int32) (by decide) ?_
          refine W.iload at_155 (pc' := 157) rfl rfl ?_
          refine W.ifY at_157 (by decide) (by decide) (pc' := 164) rfl ?_
          refine W.iconst (0 : Int32) at_164 (pc' := 165) rfl rfl ?_
          refine W.isub at_165 (pc' := 166) rfl ?_
          refine W.topI (2 : Int32) (by decide) ?_
          refine W.istore #[.val (.int a), .val (.int b), .val (.int flags), .val (.ref t), .val (.ref u0), .val (.ref u1), .val (.int (1 : Int32)), .val (.int (2 : Int32)), .val (.int (0 : Int32)), .val (.int (0 : Int32)), .val (.int (1 : Int32)), .val (.int (2 : Int32)), .unset] at_166 (pc' := 168) rfl rfl ?_
          refine W.aloadN at_168 (pc' := 169) rfl rfl rfl ?_
          refine W.iconst (0 : Int32) at_169 (pc' := 170) rfl rfl ?_
          refine W.callV 0 rfl (mG15 l Z n0 a0 hw [(u1, (IA Z .int [b])), (u0, (IA Z .int [a]))] dv hdr t sl ix il rv va le ss a b _) at_170 (wd hw 155 rfl) (wd hw 156 rfl) (wd hw 158 rfl) (wd hw 157 rfl) (wd hw 2 rfl) (wd hw 159 rfl) rfl (by decide) pd11 rfl rfl (Nat.le_of_ble_eq_true rfl) (Nat.le_of_ble_eq_true rfl) (Nat.le_of_ble_eq_true rfl) (Nat.le_of_ble_eq_true rfl) rfl (pc' := 173) rfl ?_
          intro v9 s9 q9
          rw [q9.1, q9.2]
          clear q9 v9 s9
          show W _ _ _ _ _ _ 12 134 [(t, (ShTS Z (.ref sl) (.ref ix) (.ref il) (.ref rv) (.int (1 : Int32)) (.ref va) (.ref le) (.ref ss) (.int (2 : Int32)) (.int (2 : Int32)) .null (.int (0 : Int32)) (.int (2 : Int32)) (.int (2 : Int32)))), (sl, (IA Z .int (own_two (own_s a) (own_pb a b)))), (rv, (IA Z .int (List.replicate 16 0))), (va, (IA Z .int (a :: b :: List.replicate 14 0))), (le, (LA Z ((0 : Int64) :: (0 : Int64) :: List.replicate 14 0))), (ss, (IA Z .byte (List.replicate 16 0))), (il, (ShAL Z (.int (0 : Int32)) dv (.int (0 : Int32)))), (u1, (IA Z .int [b])), (u0, (IA Z .int [a]))] 173 #[.val (.int a), .val (.int b), .val (.int flags), .val (.ref t), .val (.ref u0), .val (.ref u1), .val (.int (1 : Int32)), .val (.int (2 : Int32)), .val (.int (0 : Int32)), .val (.int (0 : Int32)), .val (.int (1 : Int32)), .val (.int (2 : Int32)), .unset] [(.int (0 : Int32))]
          refine W.iload at_173 (pc' := 175) rfl rfl ?_
          refine W.ifY at_175 (by decide) (by decide) (pc' := 182) rfl ?_
          refine W.iconst (0 : Int32) at_182 (pc' := 183) rfl rfl ?_
          refine W.icmpN at_183 (by decide) (pc' := 186) rfl ?_
          refine W.iconst (1 : Int32) at_186 (pc' := 187) rfl rfl ?_
          refine W.goto at_187 (pc' := 191) (by decide) rfl ?_
          refine W.istore #[.val (.int a), .val (.int b), .val (.int flags), .val (.ref t), .val (.ref u0), .val (.ref u1), .val (.int (1 : Int32)), .val (.int (2 : Int32)), .val (.int (0 : Int32)), .val (.int (0 : Int32)), .val (.int (1 : Int32)), .val (.int (2 : Int32)), .val (.int (1 : Int32))] at_191 (pc' := 193) rfl rfl ?_
          refine W.iload at_193 (pc' := 195) rfl rfl ?_
          refine W.ifN at_195 (by decide) (pc' := 198) rfl ?_
          refine W.iload at_198 (pc' := 200) rfl rfl ?_
          refine W.ifN at_200 (by decide) (pc' := 203) rfl ?_
          refine W.aloadN at_203 (pc' := 204) rfl rfl rfl ?_
          refine W.iconst (1 : Int32) at_204 (pc' := 205) rfl rfl ?_
          refine W.callV 0 rfl (mG16 l Z n0 a0 hw [(u1, (IA Z .int [b])), (u0, (IA Z .int [a]))] dv hdr t sl ix il rv va le ss a b _) at_205 (wd hw 155 rfl) (wd hw 156 rfl) (wd hw 158 rfl) (wd hw 157 rfl) (wd hw 2 rfl) (wd hw 159 rfl) rfl (by decide) pd11 rfl rfl (Nat.le_of_ble_eq_true rfl) (Nat.le_of_ble_eq_true rfl) (Nat.le_of_ble_eq_true rfl) (Nat.le_of_ble_eq_true rfl) rfl (pc' := 208) rfl ?_
          intro v9 s9 q9
          rw [q9.1, q9.2]
          clear q9 v9 s9
          show W _ _ _ _ _ _ 12 134 [(t, (ShTS Z (.ref sl) (.ref ix) (.ref il) (.ref rv) (.int (1 : Int32)) (.ref va) (.ref le) (.ref ss) (.int (2 : Int32)) (.int (2 : Int32)) .null (.int (0 : Int32)) (.int (2 : Int32)) (.int (2 : Int32)))), (sl, (IA Z .int (own_two (own_s a) (own_pb a b)))), (rv, (IA Z .int (List.replicate 16 0))), (va, (IA Z .int (a :: b :: List.replicate 14 0))), (le, (LA Z ((0 : Int64) :: (0 : Int64) :: List.replicate 14 0))), (ss, (IA Z .byte (List.replicate 16 0))), (il, (ShAL Z (.int (0 : Int32)) dv (.int (0 : Int32)))), (u1, (IA Z .int [b])), (u0, (IA Z .int [a]))] 208 #[.val (.int a), .val (.int b), .val (.int flags), .val (.ref t), .val (.ref u0), .val (.ref u1), .val (.int (1 : Int32)), .val (.int (2 : Int32)), .val (.int (0 : Int32)), .val (.int (0 : Int32)), .val (.int (1 : Int32)), .val (.int (2 : Int32)), .val (.int (1 : Int32))] [(.int (0 : Int32))]
          refine W.iload at_208 (pc' := 210) rfl rfl ?_
          refine W.ifY at_210 (by decide) (by decide) (pc' := 217) rfl ?_
          refine W.iconst (0 : Int32) at_217 (pc' := 218) rfl rfl ?_
          refine W.icmpN at_218 (by decide) (pc' := 221) rfl ?_
          refine W.iconst (1 : Int32) at_221 (pc' := 222) rfl rfl ?_
          refine W.goto at_222 (pc' := 226) (by decide) rfl ?_
          refine W.istore #[.val (.int a), .val (.int b), .val (.int flags), .val (.ref t), .val (.ref u0), .val (.ref u1), .val (.int (1 : Int32)), .val (.int (2 : Int32)), .val (.int (0 : Int32)), .val (.int (0 : Int32)), .val (.int (1 : Int32)), .val (.int (2 : Int32)), .val (.int (1 : Int32))] at_226 (pc' := 228) rfl rfl ?_
          refine W.iload at_228 (pc' := 230) rfl rfl ?_
          refine W.ifN at_230 (by decide) (pc' := 233) rfl ?_
          refine W.aloadN at_233 (pc' := 234) rfl rfl rfl ?_
          refine W.callV 0 rfl (mG17 l Z n0 a0 hw [(u1, (IA Z .int [b])), (u0, (IA Z .int [a]))] dv hdr t sl ix il rv va le ss a b _) at_234 (wd hw 160 rfl) (wd hw 161 rfl) (wd hw 163 rfl) (wd hw 162 rfl) (wd hw 2 rfl) (wd hw 164 rfl) rfl (by decide) pd12 rfl rfl (Nat.le_of_ble_eq_true rfl) (Nat.le_of_ble_eq_true rfl) (Nat.le_of_ble_eq_true rfl) (Nat.le_of_ble_eq_true rfl) rfl (pc' := 237) rfl ?_
          intro v9 s9 q9
          rw [q9.1, q9.2]
          clear q9 v9 s9
          show W _ _ _ _ _ _ 12 134 [(t, (ShTS Z (.ref sl) (.ref ix) (.ref il) (.ref rv) (.int (1 : Int32)) (.ref va) (.ref le) (.ref ss) (.int (2 : Int32)) (.int (2 : Int32)) .null (.int (0 : Int32)) (.int (2 : Int32)) (.int (2 : Int32)))), (sl, (IA Z .int (own_two (own_s a) (own_pb a b)))), (rv, (IA Z .int (List.replicate 16 0))), (va, (IA Z .int (a :: b :: List.replicate 14 0))), (le, (LA Z ((0 : Int64) :: (0 : Int64) :: List.replicate 14 0))), (ss, (IA Z .byte (List.replicate 16 0))), (il, (ShAL Z (.int (0 : Int32)) dv (.int (0 : Int32)))), (u1, (IA Z .int [b])), (u0, (IA Z .int [a]))] 237 #[.val (.int a), .val (.int b), .val (.int flags), .val (.ref t), .val (.ref u0), .val (.ref u1), .val (.int (1 : Int32)), .val (.int (2 : Int32)), .val (.int (0 : Int32)), .val (.int (0 : Int32)), .val (.int (1 : Int32)), .val (.int (2 : Int32)), .val (.int (1 : Int32))] [(.int (2 : Int32))]
          refine W.iload at_237 (pc' := 239) rfl rfl ?_
          refine W.icmpN at_239 (by decide) (pc' := 242) rfl ?_
          refine W.iconst (1 : Int32) at_242 (pc' := 243) rfl rfl ?_
          refine W.goto at_243 (pc' := 247) (by decide) rfl ?_
          refine W.istore #[.val (.int a), .val (.int b), .val (.int flags), .val (.ref t), .val (.ref u0), .val (.ref u1), .val (.int (1 : Int32)), .val (.int (2 : Int32)), .val (.int (0 : Int32)), .val (.int (0 : Int32)), .val (.int (1 : Int32)), .val (.int (2 : Int32)), .val (.int (1 : Int32))] at_247 (pc' := 249) rfl rfl ?_
          refine W.iload at_249 (pc' := 251) rfl rfl ?_
          refine W.ifN at_251 (by decide) (pc' := 254) rfl ?_
          refine W.aloadN at_254 (pc' := 255) rfl rfl rfl ?_
          refine W.callV 0 rfl (mG18 l Z n0 a0 hw [(u1, (IA Z .int [b])), (u0, (IA Z .int [a]))] dv hdr t sl ix il rv va le ss a b _) at_255 (wd hw 165 rfl) (wd hw 166 rfl) (wd hw 168 rfl) (wd hw 167 rfl) (wd hw 2 rfl) (wd hw 169 rfl) rfl (by decide) pd12 rfl rfl (Nat.le_of_ble_eq_true rfl) (Nat.le_of_ble_eq_true rfl) (Nat.le_of_ble_eq_true rfl) (Nat.le_of_ble_eq_true rfl) rfl (pc' := 258) rfl ?_
          intro v9 s9 q9
          rw [q9.1, q9.2]
          clear q9 v9 s9
          show W _ _ _ _ _ _ 12 134 [(t, (ShTS Z (.ref sl) (.ref ix) (.ref il) (.ref rv) (.int (1 : Int32)) (.ref va) (.ref le) (.ref ss) (.int (2 : Int32)) (.int (2 : Int32)) .null (.int (0 : Int32)) (.int (2 : Int32)) (.int (2 : Int32)))), (sl, (IA Z .int (own_two (own_s a) (own_pb a b)))), (rv, (IA Z .int (List.replicate 16 0))), (va, (IA Z .int (a :: b :: List.replicate 14 0))), (le, (LA Z ((0 : Int64) :: (0 : Int64) :: List.replicate 14 0))), (ss, (IA Z .byte (List.replicate 16 0))), (il, (ShAL Z (.int (0 : Int32)) dv (.int (0 : Int32)))), (u1, (IA Z .int [b])), (u0, (IA Z .int [a]))] 258 #[.val (.int a), .val (.int b), .val (.int flags), .val (.ref t), .val (.ref u0), .val (.ref u1), .val (.int (1 : Int32)), .val (.int (2 : Int32)), .val (.int (0 : Int32)), .val (.int (0 : Int32)), .val (.int (1 : Int32)), .val (.int (2 : Int32)), .val (.int (1 : Int32))] [(.int (0 : Int32))]
          refine W.ifN at_258 (by decide) (pc' := 261) rfl ?_
          refine W.iconst (1 : Int32) at_261 (pc' := 262) rfl rfl ?_
          refine W.goto at_262 (pc' := 266) (by decide) rfl ?_
          refine W.istore #[.val (.int a), .val (.int b), .val (.int flags), .val (.ref t), .val (.ref u0), .val (.ref u1), .val (.int (1 : Int32)), .val (.int (2 : Int32)), .val (.int (0 : Int32)), .val (.int (0 : Int32)), .val (.int (1 : Int32)), .val (.int (2 : Int32)), .val (.int (1 : Int32))] at_266 (pc' := 268) rfl rfl ?_
          refine W.iload at_268 (pc' := 270) rfl rfl ?_
          refine W.ifN at_270 (by decide) (pc' := 273) rfl ?_
          refine W.aloadN at_273 (pc' := 274) rfl rfl rfl ?_
          refine W.callV 0 rfl (mG19 l Z n0 a0 hw [(u1, (IA Z .int [b])), (u0, (IA Z .int [a]))] dv hdr t sl ix il rv va le ss a b _) at_274 (wd hw 170 rfl) (wd hw 171 rfl) (wd hw 173 rfl) (wd hw 172 rfl) (wd hw 2 rfl) (wd hw 174 rfl) rfl (by decide) pd12 rfl rfl (Nat.le_of_ble_eq_true rfl) (Nat.le_of_ble_eq_true rfl) (Nat.le_of_ble_eq_true rfl) (Nat.le_of_ble_eq_true rfl) rfl (pc' := 277) rfl ?_
          intro v9 s9 q9
          rw [q9.1, q9.2]
          clear q9 v9 s9
          show W _ _ _ _ _ _ 12 134 [(t, (ShTS Z (.ref sl) (.ref ix) (.ref il) (.ref rv) (.int (1 : Int32)) (.ref va) (.ref le) (.ref ss) (.int (2 : Int32)) (.int (2 : Int32)) .null (.int (0 : Int32)) (.int (2 : Int32)) (.int (2 : Int32)))), (sl, (IA Z .int (own_two (own_s a) (own_pb a b)))), (rv, (IA Z .int (List.replicate 16 0))), (va, (IA Z .int (a :: b :: List.replicate 14 0))), (le, (LA Z ((0 : Int64) :: (0 : Int64) :: List.replicate 14 0))), (ss, (IA Z .byte (List.replicate 16 0))), (il, (ShAL Z (.int (0 : Int32)) dv (.int (0 : Int32)))), (u1, (IA Z .int [b])), (u0, (IA Z .int [a]))] 277 #[.val (.int a), .val (.int b), .val (.int flags), .val (.ref t), .val (.ref u0), .val (.ref u1), .val (.int (1 : Int32)), .val (.int (2 : Int32)), .val (.int (0 : Int32)), .val (.int (0 : Int32)), .val (.int (1 : Int32)), .val (.int (2 : Int32)), .val (.int (1 : Int32))] [(.int (2 : Int32))]
          refine W.iload at_277 (pc' := 279) rfl rfl ?_
          refine W.icmpN at_279 (by decide) (pc' := 282) rfl ?_
          refine W.iconst (1 : Int32) at_282 (pc' := 283) rfl rfl ?_
          refine W.goto at_283 (pc' := 287) (by decide) rfl ?_
          refine W.istore #[.val (.int a), .val (.int b), .val (.int flags), .val (.ref t), .val (.ref u0), .val (.ref u1), .val (.int (1 : Int32)), .val (.int (2 : Int32)), .val (.int (0 : Int32)), .val (.int (0 : Int32)), .val (.int (1 : Int32)), .val (.int (2 : Int32)), .val (.int (1 : Int32))] at_287 (pc' := 289) rfl rfl ?_
          refine W.iload at_289 (pc' := 291) rfl rfl ?_
          exact W.retN (t := .boolean) 1 at_291 rfl (by simp) rfl (by decide) (by decide) rfl
      · refine W.ifN at_86 (XT.i0_eq_f f2) (pc' := 89) rfl ?_
        refine W.iconst (1 : Int32) at_89 (pc' := 90) rfl rfl ?_
        refine W.goto at_90 (pc' := 94) (by decide) rfl ?_
        refine W.istore #[.val (.int a), .val (.int b), .val (.int flags), .val (.ref t), .val (.ref u0), .val (.ref u1), .val (.int (1 : Int32)), .val (.int (2 : Int32)), .val (.int (0 : Int32)), .val (.int (1 : Int32)), .unset, .unset, .unset] at_94 (pc' := 96) rfl rfl ?_
        refine W.iloadN at_96 (pc' := 97) rfl rfl ?_
        refine W.iconst (4 : Int32) at_97 (pc' := 98) rfl rfl ?_
        refine W.iand at_98 (pc' := 99) rfl ?_
        by_cases f3 : (flags &&& (4 : Int32)) = 0
        · refine W.ifY at_99 (XT.i0_eq_t f3) (by decide) (pc' := 106) rfl ?_
          refine W.iconst (0 : Int32) at_106 (pc' := 107) rfl rfl ?_
          refine W.istore #[.val (.int a), .val (.int b), .val (.int flags), .val (.ref t), .val (.ref u0), .val (.ref u1), .val (.int (1 : Int32)), .val (.int (2 : Int32)), .val (.int (0 : Int32)), .val (.int (1 : Int32)), .val (.int (0 : Int32)), .unset, .unset] at_107 (pc' := 109) rfl rfl ?_
          refine W.iload at_109 (pc' := 111) rfl rfl ?_
          refine W.ifY at_111 (by decide) (by decide) (pc' := 119) rfl ?_
          refine W.iload at_119 (pc' := 121) rfl rfl ?_
          refine W.ifY at_121 (by decide) (by decide) (pc' := 128) rfl ?_
          refine W.iload at_128 (pc' := 130) rfl rfl ?_
          refine W.ifN at_130 (by decide) (pc' := 133) rfl ?_
          refine W.aloadN at_133 (pc' := 134) rfl rfl rfl ?_
          refine W.iconst (1 : Int32) at_134 (pc' := 135) rfl rfl ?_
          refine W.callV 0 rfl (mRem22 l Z n0 a0 hw [(u1, (IA Z .int [b])), (u0, (IA Z .int [a]))] dv hdr t sl ix il rv va le ss a b) at_135 (wd hw 139 rfl) (wd hw 140 rfl) (wd hw 142 rfl) (wd hw 141 rfl) (wd hw 2 rfl) (wd hw 143 rfl) rfl (by decide) pd9 rfl rfl (Nat.le_of_ble_eq_true rfl) (Nat.le_of_ble_eq_true rfl) (Nat.le_of_ble_eq_true rfl) (Nat.le_of_ble_eq_true rfl) rfl (pc' := 138) rfl ?_
          rintro _ _ ⟨rfl, x1, hl1, hk1, rfl⟩
          show W _ _ _ _ _ _ 12 134 [(t, (ShTS Z (.ref sl) (.ref ix) (.ref il) (.ref rv) (.int (1 : Int32)) (.ref va) (.ref le) (.ref ss) (.int (1 : Int32)) (.int (2 : Int32)) .null (.int (1 : Int32)) (.int (0 : Int32)) (.int (0 : Int32)))), (sl, (IA Z .int x1)), (rv, (IA Z .int (1 :: List.replicate 15 0))), (va, (IA Z .int (a :: b :: List.replicate 14 0))), (le, (LA Z ((0 : Int64) :: (0 : Int64) :: List.replicate 14 0))), (ss, (IA Z .byte (0 :: 3 :: List.replicate 14 0))), (il, (ShAL Z (.int (0 : Int32)) dv (.int (0 : Int32)))), (u1, (IA Z .int [b])), (u0, (IA Z .int [a]))] 138 #[.val (.int a), .val (.int b), .val (.int flags), .val (.ref t), .val (.ref u0), .val (.ref u1), .val (.int (1 : Int32)), .val (.int (2 : Int32)), .val (.int (0 : Int32)), .val (.int (1 : Int32)), .val (.int (0 : Int32)), .unset, .unset] []
          refine W.aloadN at_138 (pc' := 139) rfl rfl rfl ?_
          refine W.callV 0 rfl (mBC23 l Z n0 a0 hw [(u1, (IA Z .int [b])), (u0, (IA Z .int [a]))] dv hdr t sl ix il rv va le ss a b _) at_139 (wd hw 146 rfl) (wd hw 147 rfl) (wd hw 149 rfl) (wd hw 148 rfl) (wd hw 2 rfl) (wd hw 150 rfl) rfl (by decide) pd0 rfl rfl (Nat.le_of_ble_eq_true rfl) (Nat.le_of_ble_eq_true rfl) (Nat.le_of_ble_eq_true rfl) (Nat.le_of_ble_eq_true rfl) rfl (pc' := 142) rfl ?_
          intro v9 s9 q9
          rw [q9.1, q9.2]
          clear q9 v9 s9
          show W _ _ _ _ _ _ 12 134 [(t, (ShTS Z (.ref sl) (.ref ix) (.ref il) (.ref rv) (.int (1 : Int32)) (.ref va) (.ref le) (.ref ss) (.int (1 : Int32)) (.int (2 : Int32)) .null (.int (0 : Int32)) (.int (2 : Int32)) (.int (1 : Int32)))), (sl, (IA Z .int x1)), (rv, (IA Z .int (1 :: List.replicate 15 0))), (va, (IA Z .int (a :: b :: List.replicate 14 0))), (le, (LA Z ((0 : Int64) :: (0 : Int64) :: List.replicate 14 0))), (ss, (IA Z .byte (0 :: 4 :: List.replicate 14 0))), (il, (ShAL Z (.int (0 : Int32)) dv (.int (0 : Int32)))), (u1, (IA Z .int [b])), (u0, (IA Z .int [a]))] 142 #[.val (.int a), .val (.int b), .val (.int flags), .val (.ref t), .val (.ref u0), .val (.ref u1), .val (.int (1 : Int32)), .val (.int (2 : Int32)), .val (.int (0 : Int32)), .val (.int (1 : Int32)), .val (.int (0 : Int32)), .unset, .unset] []
          refine W.iload at_142 (pc' := 144) rfl rfl ?_
          refine W.iload at_144 (pc' := 146) rfl rfl ?_
          refine W.ifY at_146 (by decide) (by decide) (pc' := 153) rfl ?_
          refine W.iconst (0 : Int32) at_153 (pc' := 154) rfl rfl ?_
          refine W.isub at_154 (pc' := 155) rfl ?_
          refine W.topI (2 : Int32) (by decide) ?_
          refine W.iload at_155 (pc' := 157) rfl rfl ?_
          refine W.ifN at_157 (by decide) (pc' := 160) rfl ?_
          refine W.iconst (1 : Int32) at_160 (pc' := 161) rfl rfl ?_
          refine W.goto at_161 (pc' := 165) (by decide) rfl ?_
          refine W.isub at_165 (pc' := 166) rfl ?_
          refine W.topI (1 : Int32) (by decide) ?_
          refine W.istore #[.val (.int a), .val (.int b), .val (.int flags), .val (.ref t), .val (.ref u0), .val (.ref u1), .val (.int (1 : Int32)), .val (.int (2 : Int32)), .val (.int (0 : Int32)), .val (.int (1 : Int32)), .val (.int (0 : Int32)), .val (.int (1 : Int32)), .unset] at_166 (pc' := 168) rfl rfl ?_
          refine W.aloadN at_168 (pc' := 169) rfl rfl rfl ?_
          refine W.iconst (0 : Int32) at_169 (pc' := 170) rfl rfl ?_
          refine W.callV 0 rfl (mG24 l Z n0 a0 hw [(u1, (IA Z .int [b])), (u0, (IA Z .int [a]))] dv hdr t sl ix il rv va le ss a b _) at_170 (wd hw 155 rfl) (wd hw 156 rfl) (wd hw 158 rfl) (wd hw 157 rfl) (wd hw 2 rfl) (wd hw 159 rfl) rfl (by decide) pd11 rfl rfl (Nat.le_of_ble_eq_true rfl) (Nat.le_of_ble_eq_true rfl) (Nat.le_of_ble_eq_true rfl) (Nat.le_of_ble_eq_true rfl) rfl (pc' := 173) rfl ?_
          intro v9 s9 q9
          rw [q9.1, q9.2]
          clear q9 v9 s9
          show W _ _ _ _ _ _ 12 134 [(t, (ShTS Z (.ref sl) (.ref ix) (.ref il) (.ref rv) (.int (1 : Int32)) (.ref va) (.ref le) (.ref ss) (.int (1 : Int32)) (.int (2 : Int32)) .null (.int (0 : Int32)) (.int (2 : Int32)) (.int (1 : Int32)))), (sl, (IA Z .int x1)), (rv, (IA Z .int (1 :: List.replicate 15 0))), (va, (IA Z .int (a :: b :: List.replicate 14 0))), (le, (LA Z ((0 : Int64) :: (0 : Int64) :: List.replicate 14 0))), (ss, (IA Z .byte (0 :: 4 :: List.replicate 14 0))), (il, (ShAL Z (.int (0 : Int32)) dv (.int (0 : Int32)))), (u1, (IA Z .int [b])), (u0, (IA Z .int [a]))] 173 #[.val (.int a), .val (.int b), .val (.int flags), .val (.ref t), .val (.ref u0), .val (.ref u1), .val (.int (1 : Int32)), .val (.int (2 : Int32)), .val (.int (0 : Int32)), .val (.int (1 : Int32)), .val (.int (0 : Int32)), .val (.int (1 : Int32)), .unset] [(.int (0 : Int32))]
          refine W.iload at_173 (pc' := 175) rfl rfl ?_
          refine W.ifY at_175 (by decide) (by decide) (pc' := 182) rfl ?_
          refine W.iconst (0 : Int32) at_182 (pc' := 183) rfl rfl ?_
          refine W.icmpN at_183 (by decide) (pc' := 186) rfl ?_
          refine W.iconst (1 : Int32) at_186 (pc' := 187) rfl rfl ?_
          refine W.goto at_187 (pc' := 191) (by decide) rfl ?_
          refine W.istore #[.val (.int a), .val (.int b), .val (.int flags), .val (.ref t), .val (.ref u0), .val (.ref u1), .val (.int (1 : Int32)), .val (.int (2 : Int32)), .val (.int (0 : Int32)), .val (.int (1 : Int32)), .val (.int (0 : Int32)), .val (.int (1 : Int32)), .val (.int (1 : Int32))] at_191 (pc' := 193) rfl rfl ?_
          refine W.iload at_193 (pc' := 195) rfl rfl ?_
          refine W.ifN at_195 (by decide) (pc' := 198) rfl ?_
          refine W.iload at_198 (pc' := 200) rfl rfl ?_
          refine W.ifN at_200 (by decide) (pc' := 203) rfl ?_
          refine W.aloadN at_203 (pc' := 204) rfl rfl rfl ?_
          refine W.iconst (1 : Int32) at_204 (pc' := 205) rfl rfl ?_
          refine W.callV 0 rfl (mG25 l Z n0 a0 hw [(u1, (IA Z .int [b])), (u0, (IA Z .int [a]))] dv hdr t sl ix il rv va le ss a b _) at_205 (wd hw 155 rfl) (wd hw 156 rfl) (wd hw 158 rfl) (wd hw 157 rfl) (wd hw 2 rfl) (wd hw 159 rfl) rfl (by decide) pd11 rfl rfl (Nat.le_of_ble_eq_true rfl) (Nat.le_of_ble_eq_true rfl) (Nat.le_of_ble_eq_true rfl) (Nat.le_of_ble_eq_true rfl) rfl (pc' := 208) rfl ?_
          intro v9 s9 q9
          rw [q9.1, q9.2]
          clear q9 v9 s9
          show W _ _ _ _ _ _ 12 134 [(t, (ShTS Z (.ref sl) (.ref ix) (.ref il) (.ref rv) (.int (1 : Int32)) (.ref va) (.ref le) (.ref ss) (.int (1 : Int32)) (.int (2 : Int32)) .null (.int (0 : Int32)) (.int (2 : Int32)) (.int (1 : Int32)))), (sl, (IA Z .int x1)), (rv, (IA Z .int (1 :: List.replicate 15 0))), (va, (IA Z .int (a :: b :: List.replicate 14 0))), (le, (LA Z ((0 : Int64) :: (0 : Int64) :: List.replicate 14 0))), (ss, (IA Z .byte (0 :: 4 :: List.replicate 14 0))), (il, (ShAL Z (.int (0 : Int32)) dv (.int (0 : Int32)))), (u1, (IA Z .int [b])), (u0, (IA Z .int [a]))] 208 #[.val (.int a), .val (.int b), .val (.int flags), .val (.ref t), .val (.ref u0), .val (.ref u1), .val (.int (1 : Int32)), .val (.int (2 : Int32)), .val (.int (0 : Int32)), .val (.int (1 : Int32)), .val (.int (0 : Int32)), .val (.int (1 : Int32)), .val (.int (1 : Int32))] [(.int (4 : Int32))]
          refine W.iload at_208 (pc' := 210) rfl rfl ?_
          refine W.ifN at_210 (by decide) (pc' := 213) rfl ?_
          refine W.iconst (4 : Int32) at_213 (pc' := 214) rfl rfl ?_
          refine W.goto at_214 (pc' := 218) (by decide) rfl ?_
          refine W.icmpN at_218 (by decide) (pc' := 221) rfl ?_
          refine W.iconst (1 : Int32) at_221 (pc' := 222) rfl rfl ?_
          refine W.goto at_222 (pc' := 226) (by decide) rfl ?_
          refine W.istore #[.val (.int a), .val (.int b), .val (.int flags), .val (.ref t), .val (.ref u0), .val (.ref u1), .val (.int (1 : Int32)), .val (.int (2 : Int32)), .val (.int (0 : Int32)), .val (.int (1 : Int32)), .val (.int (0 : Int32)), .val (.int (1 : Int32)), .val (.int (1 : Int32))] at_226 (pc' := 228) rfl rfl ?_
          refine W.iload at_228 (pc' := 230) rfl rfl ?_
          refine W.ifN at_230 (by decide) (pc' := 233) rfl ?_
          refine W.aloadN at_233 (pc' := 234) rfl rfl rfl ?_
          refine W.callV 0 rfl (mG26 l Z n0 a0 hw [(u1, (IA Z .int [b])), (u0, (IA Z .int [a]))] dv hdr t sl ix il rv va le ss a b _) at_234 (wd hw 160 rfl) (wd hw 161 rfl) (wd hw 163 rfl) (wd hw 162 rfl) (wd hw 2 rfl) (wd hw 164 rfl) rfl (by decide) pd12 rfl rfl (Nat.le_of_ble_eq_true rfl) (Nat.le_of_ble_eq_true rfl) (Nat.le_of_ble_eq_true rfl) (Nat.le_of_ble_eq_true rfl) rfl (pc' := 237) rfl ?_
          intro v9 s9 q9
          rw [q9.1, q9.2]
          clear q9 v9 s9
          show W _ _ _ _ _ _ 12 134 [(t, (ShTS Z (.ref sl) (.ref ix) (.ref il) (.ref rv) (.int (1 : Int32)) (.ref va) (.ref le) (.ref ss) (.int (1 : Int32)) (.int (2 : Int32)) .null (.int (0 : Int32)) (.int (2 : Int32)) (.int (1 : Int32)))), (sl, (IA Z .int x1)), (rv, (IA Z .int (1 :: List.replicate 15 0))), (va, (IA Z .int (a :: b :: List.replicate 14 0))), (le, (LA Z ((0 : Int64) :: (0 : Int64) :: List.replicate 14 0))), (ss, (IA Z .byte (0 :: 4 :: List.replicate 14 0))), (il, (ShAL Z (.int (0 : Int32)) dv (.int (0 : Int32)))), (u1, (IA Z .int [b])), (u0, (IA Z .int [a]))] 237 #[.val (.int a), .val (.int b), .val (.int flags), .val (.ref t), .val (.ref u0), .val (.ref u1), .val (.int (1 : Int32)), .val (.int (2 : Int32)), .val (.int (0 : Int32)), .val (.int (1 : Int32)), .val (.int (0 : Int32)), .val (.int (1 : Int32)), .val (.int (1 : Int32))] [(.int (2 : Int32))]
          refine W.iload at_237 (pc' := 239) rfl rfl ?_
          refine W.icmpN at_239 (by decide) (pc' := 242) rfl ?_
          refine W.iconst (1 : Int32) at_242 (pc' := 243) rfl rfl ?_
          refine W.goto at_243 (pc' := 247) (by decide) rfl ?_
          refine W.istore #[.val (.int a), .val (.int b), .val (.int flags), .val (.ref t), .val (.ref u0), .val (.ref u1), .val (.int (1 : Int32)), .val (.int (2 : Int32)), .val (.int (0 : Int32)), .val (.int (1 : Int32)), .val (.int (0 : Int32)), .val (.int (1 : Int32)), .val (.int (1 : Int32))] at_247 (pc' := 249) rfl rfl ?_
          refine W.iload at_249 (pc' := 251) rfl rfl ?_
          refine W.ifN at_251 (by decide) (pc' := 254) rfl ?_
          refine W.aloadN at_254 (pc' := 255) rfl rfl rfl ?_
          refine W.callV 0 rfl (mG27 l Z n0 a0 hw [(u1, (IA Z .int [b])), (u0, (IA Z .int [a]))] dv hdr t sl ix il rv va le ss a b _) at_255 (wd hw 165 rfl) (wd hw 166 rfl) (wd hw 168 rfl) (wd hw 167 rfl) (wd hw 2 rfl) (wd hw 169 rfl) rfl (by decide) pd12 rfl rfl (Nat.le_of_ble_eq_true rfl) (Nat.le_of_ble_eq_true rfl) (Nat.le_of_ble_eq_true rfl) (Nat.le_of_ble_eq_true rfl) rfl (pc' := 258) rfl ?_
          intro v9 s9 q9
          rw [q9.1, q9.2]
          clear q9 v9 s9
          show W _ _ _ _ _ _ 12 134 [(t, (ShTS Z (.ref sl) (.ref ix) (.ref il) (.ref rv) (.int (1 : Int32)) (.ref va) (.ref le) (.ref ss) (.int (1 : Int32)) (.int (2 : Int32)) .null (.int (0 : Int32)) (.int (2 : Int32)) (.int (1 : Int32)))), (sl, (IA Z .int x1)), (rv, (IA Z .int (1 :: List.replicate 15 0))), (va, (IA Z .int (a :: b :: List.replicate 14 0))), (le, (LA Z ((0 : Int64) :: (0 : Int64) :: List.replicate 14 0))), (ss, (IA Z .byte (0 :: 4 :: List.replicate 14 0))), (il, (ShAL Z (.int (0 : Int32)) dv (.int (0 : Int32)))), (u1, (IA Z .int [b])), (u0, (IA Z .int [a]))] 258 #[.val (.int a), .val (.int b), .val (.int flags), .val (.ref t), .val (.ref u0), .val (.ref u1), .val (.int (1 : Int32)), .val (.int (2 : Int32)), .val (.int (0 : Int32)), .val (.int (1 : Int32)), .val (.int (0 : Int32)), .val (.int (1 : Int32)), .val (.int (1 : Int32))] [(.int (0 : Int32))]
          refine W.ifN at_258 (by decide) (pc' := 261) rfl ?_
          refine W.iconst (1 : Int32) at_261 (pc' := 262) rfl rfl ?_
          refine W.goto at_262 (pc' := 266) (by decide) rfl ?_
          refine W.istore #[.val (.int a), .val (.int b), .val (.int flags), .val (.ref t), .val (.ref u0), .val (.ref u1), .val (.int (1 : Int32)), .val (.int (2 : Int32)), .val (.int (0 : Int32)), .val (.int (1 : Int32)), .val (.int (0 : Int32)), .val (.int (1 : Int32)), .val (.int (1 : Int32))] at_266 (pc' := 268) rfl rfl ?_
          refine W.iload at_268 (pc' := 270) rfl rfl ?_
          refine W.ifN at_270 (by decide) (pc' := 273) rfl ?_
          refine W.aloadN at_273 (pc' := 274) rfl rfl rfl ?_
          refine W.callV 0 rfl (mG28 l Z n0 a0 hw [(u1, (IA Z .int [b])), (u0, (IA Z .int [a]))] dv hdr t sl ix il rv va le ss a b _) at_274 (wd hw 170 rfl) (wd hw 171 rfl) (wd hw 173 rfl) (wd hw 172 rfl) (wd hw 2 rfl) (wd hw 174 rfl) rfl (by decide) pd12 rfl rfl (Nat.le_of_ble_eq_true rfl) (Nat.le_of_ble_eq_true rfl) (Nat.le_of_ble_eq_true rfl) (Nat.le_of_ble_eq_true rfl) rfl (pc' := 277) rfl ?_
          intro v9 s9 q9
          rw [q9.1, q9.2]
          clear q9 v9 s9
          show W _ _ _ _ _ _ 12 134 [(t, (ShTS Z (.ref sl) (.ref ix) (.ref il) (.ref rv) (.int (1 : Int32)) (.ref va) (.ref le) (.ref ss) (.int (1 : Int32)) (.int (2 : Int32)) .null (.int (0 : Int32)) (.int (2 : Int32)) (.int (1 : Int32)))), (sl, (IA Z .int x1)), (rv, (IA Z .int (1 :: List.replicate 15 0))), (va, (IA Z .int (a :: b :: List.replicate 14 0))), (le, (LA Z ((0 : Int64) :: (0 : Int64) :: List.replicate 14 0))), (ss, (IA Z .byte (0 :: 4 :: List.replicate 14 0))), (il, (ShAL Z (.int (0 : Int32)) dv (.int (0 : Int32)))), (u1, (IA Z .int [b])), (u0, (IA Z .int [a]))] 277 #[.val (.int a), .val (.int b), .val (.int flags), .val (.ref t), .val (.ref u0), .val (.ref u1), .val (.int (1 : Int32)), .val (.int (2 : Int32)), .val (.int (0 : Int32)), .val (.int (1 : Int32)), .val (.int (0 : Int32)), .val (.int (1 : Int32)), .val (.int (1 : Int32))] [(.int (1 : Int32))]
          refine W.iload at_277 (pc' := 279) rfl rfl ?_
          refine W.icmpN at_279 (by decide) (pc' := 282) rfl ?_
          refine W.iconst (1 : Int32) at_282 (pc' := 283) rfl rfl ?_
          refine W.goto at_283 (pc' := 287) (by decide) rfl ?_
          refine W.istore #[.val (.int a), .val (.int b), .val (.int flags), .val (.ref t), .val (.ref u0), .val (.ref u1), .val (.int (1 : Int32)), .val (.int (2 : Int32)), .val (.int (0 : Int32)), .val (.int (1 : Int32)), .val (.int (0 : Int32)), .val (.int (1 : Int32)), .val (.int (1 : Int32))] at_287 (pc' := 289) rfl rfl ?_
          refine W.iload at_289 (pc' := 291) rfl rfl ?_
          exact W.retN (t := .boolean) 1 at_291 rfl (by simp) rfl (by decide) (by decide) rfl
        · refine W.ifN at_99 (XT.i0_eq_f f3) (pc' := 102) rfl ?_
          refine W.iconst (1 : Int32) at_102 (pc' := 103) rfl rfl ?_
          refine W.goto at_103 (pc' := 107) (by decide) rfl ?_
          refine W.istore #[.val (.int a), .val (.int b), .val (.int flags), .val (.ref t), .val (.ref u0), .val (.ref u1), .val (.int (1 : Int32)), .val (.int (2 : Int32)), .val (.int (0 : Int32)), .val (.int (1 : Int32)), .val (.int (1 : Int32)), .unset, .unset] at_107 (pc' := 109) rfl rfl ?_
          refine W.iload at_109 (pc' := 111) rfl rfl ?_
          refine W.ifY at_111 (by decide) (by decide) (pc' := 119) rfl ?_
          refine W.iload at_119 (pc' := 121) rfl rfl ?_
          refine W.ifN at_121 (by decide) (pc' := 124) rfl ?_
          refine W.aloadN at_124 (pc' := 125) rfl rfl rfl ?_
          refine W.callV 0 rfl (mBC14 l Z n0 a0 hw [(u1, (IA Z .int [b])), (u0, (IA Z .int [a]))] dv hdr t sl ix il rv va le ss a b _) at_125 (wd hw 146 rfl) (wd hw 147 rfl) (wd hw 149 rfl) (wd hw 148 rfl) (wd hw 2 rfl) (wd hw 150 rfl) rfl (by decide) pd0 rfl rfl (Nat.le_of_ble_eq_true rfl) (Nat.le_of_ble_eq_true rfl) (Nat.le_of_ble_eq_true rfl) (Nat.le_of_ble_eq_true rfl) rfl (pc' := 128) rfl ?_
          intro v9 s9 q9
          rw [q9.1, q9.2]
          clear q9 v9 s9
          show W _ _ _ _ _ _ 12 134 [(t, (ShTS Z (.ref sl) (.ref ix) (.ref il) (.ref rv) (.int (1 : Int32)) (.ref va) (.ref le) (.ref ss) (.int (2 : Int32)) (.int (2 : Int32)) .null (.int (0 : Int32)) (.int (2 : Int32)) (.int (2 : Int32)))), (sl, (IA Z .int (own_two (own_s a) (own_pb a b)))), (rv, (IA Z .int (List.replicate 16 0))), (va, (IA Z .int (a :: b :: List.replicate 14 0))), (le, (LA Z ((0 : Int64) :: (0 : Int64) :: List.replicate 14 0))), (ss, (IA Z .byte (List.replicate 16 0))), (il, (ShAL Z (.int (0 : Int32)) dv (.int (0 : Int32)))), (u1, (IA Z .int [b])), (u0, (IA Z .int [a]))] 128 #[.val (.int a), .val (.int b), .val (.int flags), .val (.ref t), .val (.ref u0), .val (.ref u1), .val (.int (1 : Int32)), .val (.int (2 : Int32)), .val (.int (0 : Int32)), .val (.int (1 : Int32)), .val (.int (1 : Int32)), .unset, .unset] []
          refine W.iload at_128 (pc' := 130) rfl rfl ?_
          refine W.ifN at_130 (by decide) (pc' := 133) rfl ?_
          refine W.aloadN at_133 (pc' := 134) rfl rfl rfl ?_
          refine W.iconst (1 : Int32) at_134 (pc' := 135) rfl rfl ?_
          refine W.callV 0 rfl (mRem30 l Z n0 a0 hw [(u1, (IA Z .int [b])), (u0, (IA Z .int [a]))] dv hdr t sl ix il rv va le ss a b) at_135 (wd hw 139 rfl) (wd hw 140 rfl) (wd hw 142 rfl) (wd hw 141 rfl) (wd hw 2 rfl) (wd hw 143 rfl) rfl (by decide) pd9 rfl rfl (Nat.le_of_ble_eq_true rfl) (Nat.le_of_ble_eq_true rfl) (Nat.le_of_ble_eq_true rfl) (Nat.le_of_ble_eq_true rfl) rfl (pc' := 138) rfl ?_
          rintro _ _ ⟨rfl, x1, hl1, hk1, rfl⟩
          show W _ _ _ _ _ _ 12 134 [(t, (ShTS Z (.ref sl) (.ref ix) (.ref il) (.ref rv) (.int (1 : Int32)) (.ref va) (.ref le) (.ref ss) (.int (1 : Int32)) (.int (2 : Int32)) .null (.int (1 : Int32)) (.int (2 : Int32)) (.int (2 : Int32)))), (sl, (IA Z .int x1)), (rv, (IA Z .int (1 :: List.replicate 15 0))), (va, (IA Z .int (a :: b :: List.replicate 14 0))), (le, (LA Z ((0 : Int64) :: (0 : Int64) :: List.replicate 14 0))), (ss, (IA Z .byte (0 :: 3 :: List.replicate 14 0))), (il, (ShAL Z (.int (0 : Int32)) dv (.int (0 : Int32)))), (u1, (IA Z .int [b])), (u0, (IA Z .int [a]))] 138 #[.val (.int a), .val (.int b), .val (.int flags), .val (.ref t), .val (.ref u0), .val (.ref u1), .val (.int (1 : Int32)), .val (.int (2 : Int32)), .val (.int (0 : Int32)), .val (.int (1 : Int32)), .val (.int (1 : Int32)), .unset, .unset] []
          refine W.aloadN at_138 (pc' := 139) rfl rfl rfl ?_
          refine W.callV 0 rfl (mBC31 l Z n0 a0 hw [(u1, (IA Z .int [b])), (u0, (IA Z .int [a]))] dv hdr t sl ix il rv va le ss a b _) at_139 (wd hw 146 rfl) (wd hw 147 rfl) (wd hw 149 rfl) (wd hw 148 rfl) (wd hw 2 rfl) (wd hw 150 rfl) rfl (by decide) pd0 rfl rfl (Nat.le_of_ble_eq_true rfl) (Nat.le_of_ble_eq_true rfl) (Nat.le_of_ble_eq_true rfl) (Nat.le_of_ble_eq_true rfl) rfl (pc' := 142) rfl ?_
          intro v9 s9 q9
          rw [q9.1, q9.2]
          clear q9 v9 s9
          show W _ _ _ _ _ _ 12 134 [(t, (ShTS Z (.ref sl) (.ref ix) (.ref il) (.ref rv) (.int (1 : Int32)) (.ref va) (.ref le) (.ref ss) (.int (1 : Int32)) (.int (2 : Int32)) .null (.int (0 : Int32)) (.int (2 : Int32)) (.int (1 : Int32)))), (sl, (IA Z .int x1)), (rv, (IA Z .int (1 :: List.replicate 15 0))), (va, (IA Z .int (a :: b :: List.replicate 14 0))), (le, (LA Z ((0 : Int64) :: (0 : Int64) :: List.replicate 14 0))), (ss, (IA Z .byte (0 :: 4 :: List.replicate 14 0))), (il, (ShAL Z (.int (0 : Int32)) dv (.int (0 : Int32)))), (u1, (IA Z .int [b])), (u0, (IA Z .int [a]))] 142 #[.val (.int a), .val (.int b), .val (.int flags), .val (.ref t), .val (.ref u0), .val (.ref u1), .val (.int (1 : Int32)), .val (.int (2 : Int32)), .val (.int (0 : Int32)), .val (.int (1 : Int32)), .val (.int (1 : Int32)), .unset, .unset] []
          refine W.iload at_142 (pc' := 144) rfl rfl ?_
          refine W.iload at_144 (pc' := 146) rfl rfl ?_
          refine W.ifY at_146 (by decide) (by decide) (pc' := 153) rfl ?_
          refine W.iconst (0 : Int32) at_153 (pc' := 154) rfl rfl ?_
          refine W.isub at_154 (pc' := 155) rfl ?_
          refine W.topI (2 : Int32) (by decide) ?_
          refine W.iload at_155 (pc' := 157) rfl rfl ?_
          refine W.ifN at_157 (by decide) (pc' := 160) rfl ?_
          refine W.iconst (1 : Int32) at_160 (pc' := 161) rfl rfl ?_
          refine W.goto at_161 (pc' := 165) (by decide) rfl ?_
          refine W.isub at_165 (pc' := 166) rfl ?_
          refine W.topI (1 : Int32) (by decide) ?_
          refine W.istore #[.val (.int a), .val (.int b), .val (.int flags), .val (.ref t), .val (.ref u0), .val (.ref u1), .val (.int (1 : Int32)), .val (.int (2 : Int32)), .val (.int (0 : Int32)), .val (.int (1 : Int32)), .val (.int (1 : Int32)), .val (.int (1 : Int32)), .unset] at_166 (pc' := 168) rfl rfl ?_
          refine W.aloadN at_168 (pc' := 169) rfl rfl rfl ?_
          refine W.iconst (0 : Int32) at_169 (pc' := 170) rfl rfl ?_
          refine W.callV 0 rfl (mG24 l Z n0 a0 hw [(u1, (IA Z .int [b])), (u0, (IA Z .int [a]))] dv hdr t sl ix il rv va le ss a b _) at_170 (wd hw 155 rfl) (wd hw 156 rfl) (wd hw 158 rfl) (wd hw 157 rfl) (wd hw 2 rfl) (wd hw 159 rfl) rfl (by decide) pd11 rfl rfl (Nat.le_of_ble_eq_true rfl) (Nat.le_of_ble_eq_true rfl) (Nat.le_of_ble_eq_true rfl) (Nat.le_of_ble_eq_true rfl) rfl (pc' := 173) rfl ?_
          intro v9 s9 q9
          rw [q9.1, q9.2]
          clear q9 v9 s9
          show W _ _ _ _ _ _ 12 134 [(t, (ShTS Z (.ref sl) (.ref ix) (.ref il) (.ref rv) (.int (1 : Int32)) (.ref va) (.ref le) (.ref ss) (.int (1 : Int32)) (.int (2 : Int32)) .null (.int (0 : Int32)) (.int (2 : Int32)) (.int (1 : Int32)))), (sl, (IA Z .int x1)), (rv, (IA Z .int (1 :: List.replicate 15 0))), (va, (IA Z .int (a :: b :: List.replicate 14 0))), (le, (LA Z ((0 : Int64) :: (0 : Int64) :: List.replicate 14 0))), (ss, (IA Z .byte (0 :: 4 :: List.replicate 14 0))), (il, (ShAL Z (.int (0 : Int32)) dv (.int (0 : Int32)))), (u1, (IA Z .int [b])), (u0, (IA Z .int [a]))] 173 #[.val (.int a), .val (.int b), .val (.int flags), .val (.ref t), .val (.ref u0), .val (.ref u1), .val (.int (1 : Int32)), .val (.int (2 : Int32)), .val (.int (0 : Int32)), .val (.int (1 : Int32)), .val (.int (1 : Int32)), .val (.int (1 : Int32)), .unset] [(.int (0 : Int32))]
          refine W.iload at_173 (pc' := 175) rfl rfl ?_
          refine W.ifY at_175 (by decide) (by decide) (pc' := 182) rfl ?_
          refine W.iconst (0 : Int32) at_182 (pc' := 183) rfl rfl ?_
          refine W.icmpN at_183 (by decide) (pc' := 186) rfl ?_
          refine W.iconst (1 : Int32) at_186 (pc' := 187) rfl rfl ?_
          refine W.goto at_187 (pc' := 191) (by decide) rfl ?_
          refine W.istore #[.val (.int a), .val (.int b), .val (.int flags), .val (.ref t), .val (.ref u0), .val (.ref u1), .val (.int (1 : Int32)), .val (.int (2 : Int32)), .val (.int (0 : Int32)), .val (.int (1 : Int32)), .val (.int (1 : Int32)), .val (.int (1 : Int32)), .val (.int (1 : Int32))] at_191 (pc' := 193) rfl rfl ?_
          refine W.iload at_193 (pc' := 195) rfl rfl ?_
          refine W.ifN at_195 (by decide) (pc' := 198) rfl ?_
          refine W.iload at_198 (pc' := 200) rfl rfl ?_
          refine W.ifN at_200 (by decide) (pc' := 203) rfl ?_
          refine W.aloadN at_203 (pc' := 204) rfl rfl rfl ?_
          refine W.iconst (1 : Int32) at_204 (pc' := 205) rfl rfl ?_
          refine W.callV 0 rfl (mG25 l Z n0 a0 hw [(u1, (IA Z .int [b])), (u0, (IA Z .int [a]))] dv hdr t sl ix il rv va le ss a b _) at_205 (wd hw 155 rfl) (wd hw 156 rfl) (wd hw 158 rfl) (wd hw 157 rfl) (wd hw 2 rfl) (wd hw 159 rfl) rfl (by decide) pd11 rfl rfl (Nat.le_of_ble_eq_true rfl) (Nat.le_of_ble_eq_true rfl) (Nat.le_of_ble_eq_true rfl) (Nat.le_of_ble_eq_true rfl) rfl (pc' := 208) rfl ?_
          intro v9 s9 q9
          rw [q9.1, q9.2]
          clear q9 v9 s9
          show W _ _ _ _ _ _ 12 134 [(t, (ShTS Z (.ref sl) (.ref ix) (.ref il) (.ref rv) (.int (1 : Int32)) (.ref va) (.ref le) (.ref ss) (.int (1 : Int32)) (.int (2 : Int32)) .null (.int (0 : Int32)) (.int (2 : Int32)) (.int (1 : Int32)))), (sl, (IA Z .int x1)), (rv, (IA Z .int (1 :: List.replicate 15 0))), (va, (IA Z .int (a :: b :: List.replicate 14 0))), (le, (LA Z ((0 : Int64) :: (0 : Int64) :: List.replicate 14 0))), (ss, (IA Z .byte (0 :: 4 :: List.replicate 14 0))), (il, (ShAL Z (.int (0 : Int32)) dv (.int (0 : Int32)))), (u1, (IA Z .int [b])), (u0, (IA Z .int [a]))] 208 #[.val (.int a), .val (.int b), .val (.int flags), .val (.ref t), .val (.ref u0), .val (.ref u1), .val (.int (1 : Int32)), .val (.int (2 : Int32)), .val (.int (0 : Int32)), .val (.int (1 : Int32)), .val (.int (1 : Int32)), .val (.int (1 : Int32)), .val (.int (1 : Int32))] [(.int (4 : Int32))]
          refine W.iload at_208 (pc' := 210) rfl rfl ?_
          refine W.ifN at_210 (by decide) (pc' := 213) rfl ?_
          refine W.iconst (4 : Int32) at_213 (pc' := 214) rfl rfl ?_
          refine W.goto at_214 (pc' := 218) (by decide) rfl ?_
          refine W.icmpN at_218 (by decide) (pc' := 221) rfl ?_
          refine W.iconst (1 : Int32) at_221 (pc' := 222) rfl rfl ?_
          refine W.goto at_222 (pc' := 226) (by decide) rfl ?_
          refine W.istore #[.val (.int a), .val (.int b), .val (.int flags), .val (.ref t), .val (.ref u0), .val (.ref u1), .val (.int (1 : Int32)), .val (.int (2 : Int32)), .val (.int (0 : Int32)), .val (.int (1 : Int32)), .val (.int (1 : Int32)), .val (.int (1 : Int32)), .val (.int (1 : Int32))] at_226 (pc' := 228) rfl rfl ?_
          refine W.iload at_228 (pc' := 230) rfl rfl ?_
          refine W.ifN at_230 (by decide) (pc' := 233) rfl ?_
          refine W.aloadN at_233 (pc' := 234) rfl rfl rfl ?_
          refine W.callV 0 rfl (mG26 l Z n0 a0 hw [(u1, (IA Z .int [b])), (u0, (IA Z .int [a]))] dv hdr t sl ix il rv va le ss a b _) at_234 (wd hw 160 rfl) (wd hw 161 rfl) (wd hw 163 rfl) (wd hw 162 rfl) (wd hw 2 rfl) (wd hw 164 rfl) rfl (by decide) pd12 rfl rfl (Nat.le_of_ble_eq_true rfl) (Nat.le_of_ble_eq_true rfl) (Nat.le_of_ble_eq_true rfl) (Nat.le_of_ble_eq_true rfl) rfl (pc' := 237) rfl ?_
          intro v9 s9 q9
          rw [q9.1, q9.2]
          clear q9 v9 s9
          show W _ _ _ _ _ _ 12 134 [(t, (ShTS Z (.ref sl) (.ref ix) (.ref il) (.ref rv) (.int (1 : Int32)) (.ref va) (.ref le) (.ref ss) (.int (1 : Int32)) (.int (2 : Int32)) .null (.int (0 : Int32)) (.int (2 : Int32)) (.int (1 : Int32)))), (sl, (IA Z .int x1)), (rv, (IA Z .int (1 :: List.replicate 15 0))), (va, (IA Z .int (a :: b :: List.replicate 14 0))), (le, (LA Z ((0 : Int64) :: (0 : Int64) :: List.replicate 14 0))), (ss, (IA Z .byte (0 :: 4 :: List.replicate 14 0))), (il, (ShAL Z (.int (0 : Int32)) dv (.int (0 : Int32)))), (u1, (IA Z .int [b])), (u0, (IA Z .int [a]))] 237 #[.val (.int a), .val (.int b), .val (.int flags), .val (.ref t), .val (.ref u0), .val (.ref u1), .val (.int (1 : Int32)), .val (.int (2 : Int32)), .val (.int (0 : Int32)), .val (.int (1 : Int32)), .val (.int (1 : Int32)), .val (.int (1 : Int32)), .val (.int (1 : Int32))] [(.int (2 : Int32))]
          refine W.iload at_237 (pc' := 239) rfl rfl ?_
          refine W.icmpN at_239 (by decide) (pc' := 242) rfl ?_
          refine W.iconst (1 : Int32) at_242 (pc' := 243) rfl rfl ?_
          refine W.goto at_243 (pc' := 247) (by decide) rfl ?_
          refine W.istore #[.val (.int a), .val (.int b), .val (.int flags), .val (.ref t), .val (.ref u0), .val (.ref u1), .val (.int (1 : Int32)), .val (.int (2 : Int32)), .val (.int (0 : Int32)), .val (.int (1 : Int32)), .val (.int (1 : Int32)), .val (.int (1 : Int32)), .val (.int (1 : Int32))] at_247 (pc' := 249) rfl rfl ?_
          refine W.iload at_249 (pc' := 251) rfl rfl ?_
          refine W.ifN at_251 (by decide) (pc' := 254) rfl ?_
          refine W.aloadN at_254 (pc' := 255) rfl rfl rfl ?_
          refine W.callV 0 rfl (mG27 l Z n0 a0 hw [(u1, (IA Z .int [b])), (u0, (IA Z .int [a]))] dv hdr t sl ix il rv va le ss a b _) at_255 (wd hw 165 rfl) (wd hw 166 rfl) (wd hw 168 rfl) (wd hw 167 rfl) (wd hw 2 rfl) (wd hw 169 rfl) rfl (by decide) pd12 rfl rfl (Nat.le_of_ble_eq_true rfl) (Nat.le_of_ble_eq_true rfl) (Nat.le_of_ble_eq_true rfl) (Nat.le_of_ble_eq_true rfl) rfl (pc' := 258) rfl ?_
          intro v9 s9 q9
          rw [q9.1, q9.2]
          clear q9 v9 s9
          show W _ _ _ _ _ _ 12 134 [(t, (ShTS Z (.ref sl) (.ref ix) (.ref il) (.ref rv) (.int (1 : Int32)) (.ref va) (.ref le) (.ref ss) (.int (1 : Int32)) (.int (2 : Int32)) .null (.int (0 : Int32)) (.int (2 : Int32)) (.int (1 : Int32)))), (sl, (IA Z .int x1)), (rv, (IA Z .int (1 :: List.replicate 15 0))), (va, (IA Z .int (a :: b :: List.replicate 14 0))), (le, (LA Z ((0 : Int64) :: (0 : Int64) :: List.replicate 14 0))), (ss, (IA Z .byte (0 :: 4 :: List.replicate 14 0))), (il, (ShAL Z (.int (0 : Int32)) dv (.int (0 : Int32)))), (u1, (IA Z .int [b])), (u0, (IA Z .int [a]))] 258 #[.val (.int a), .val (.int b), .val (.int flags), .val (.ref t), .val (.ref u0), .val (.ref u1), .val (.int (1 : Int32)), .val (.int (2 : Int32)), .val (.int (0 : Int32)), .val (.int (1 : Int32)), .val (.int (1 : Int32)), .val (.int (1 : Int32)), .val (.int (1 : Int32))] [(.int (0 : Int32))]
          refine W.ifN at_258 (by decide) (pc' := 261) rfl ?_
          refine W.iconst (1 : Int32) at_261 (pc' := 262) rfl rfl ?_
          refine W.goto at_262 (pc' := 266) (by decide) rfl ?_
          refine W.istore #[.val (.int a), .val (.int b), .val (.int flags), .val (.ref t), .val (.ref u0), .val (.ref u1), .val (.int (1 : Int32)), .val (.int (2 : Int32)), .val (.int (0 : Int32)), .val (.int (1 : Int32)), .val (.int (1 : Int32)), .val (.int (1 : Int32)), .val (.int (1 : Int32))] at_266 (pc' := 268) rfl rfl ?_
          refine W.iload at_268 (pc' := 270) rfl rfl ?_
          refine W.ifN at_270 (by decide) (pc' := 273) rfl ?_
          refine W.aloadN at_273 (pc' := 274) rfl rfl rfl ?_
          refine W.callV 0 rfl (mG28 l Z n0 a0 hw [(u1, (IA Z .int [b])), (u0, (IA Z .int [a]))] dv hdr t sl ix il rv va le ss a b _) at_274 (wd hw 170 rfl) (wd hw 171 rfl) (wd hw 173 rfl) (wd hw 172 rfl) (wd hw 2 rfl) (wd hw 174 rfl) rfl (by decide) pd12 rfl rfl (Nat.le_of_ble_eq_true rfl) (Nat.le_of_ble_eq_true rfl) (Nat.le_of_ble_eq_true rfl) (Nat.le_of_ble_eq_true rfl) rfl (pc' := 277) rfl ?_
          intro v9 s9 q9
          rw [q9.1, q9.2]
          clear q9 v9 s9
          show W _ _ _ _ _ _ 12 134 [(t, (ShTS Z (.ref sl) (.ref ix) (.ref il) (.ref rv) (.int (1 : Int32)) (.ref va) (.ref le) (.ref ss) (.int (1 : Int32)) (.int (2 : Int32)) .null (.int (0 : Int32)) (.int (2 : Int32)) (.int (1 : Int32)))), (sl, (IA Z .int x1)), (rv, (IA Z .int (1 :: List.replicate 15 0))), (va, (IA Z .int (a :: b :: List.replicate 14 0))), (le, (LA Z ((0 : Int64) :: (0 : Int64) :: List.replicate 14 0))), (ss, (IA Z .byte (0 :: 4 :: List.replicate 14 0))), (il, (ShAL Z (.int (0 : Int32)) dv (.int (0 : Int32)))), (u1, (IA Z .int [b])), (u0, (IA Z .int [a]))] 277 #[.val (.int a), .val (.int b), .val (.int flags), .val (.ref t), .val (.ref u0), .val (.ref u1), .val (.int (1 : Int32)), .val (.int (2 : Int32)), .val (.int (0 : Int32)), .val (.int (1 : Int32)), .val (.int (1 : Int32)), .val (.int (1 : Int32)), .val (.int (1 : Int32))] [(.int (1 : Int32))]
          refine W.iload at_277 (pc' := 279) rfl rfl ?_
          refine W.icmpN at_279 (by decide) (pc' := 282) rfl ?_
          refine W.iconst (1 : Int32) at_282 (pc' := 283) rfl rfl ?_
          refine W.goto at_283 (pc' := 287) (by decide) rfl ?_
          refine W.istore #[.val (.int a), .val (.int b), .val (.int flags), .val (.ref t), .val (.ref u0), .val (.ref u1), .val (.int (1 : Int32)), .val (.int (2 : Int32)), .val (.int (0 : Int32)), .val (.int (1 : Int32)), .val (.int (1 : Int32)), .val (.int (1 : Int32)), .val (.int (1 : Int32))] at_287 (pc' := 289) rfl rfl ?_
          refine W.iload at_289 (pc' := 291) rfl rfl ?_
          exact W.retN (t := .boolean) 1 at_291 rfl (by simp) rfl (by decide) (by decide) rfl
    · refine W.ifN at_68 (XT.i0_eq_f f1) (pc' := 71) rfl ?_
      refine W.iconst (1 : Int32) at_71 (pc' := 72) rfl rfl ?_
      refine W.goto at_72 (pc' := 76) (by decide) rfl ?_
      refine W.istore #[.val (.int a), .val (.int b), .val (.int flags), .val (.ref t), .val (.ref u0), .val (.ref u1), .val (.int (1 : Int32)), .val (.int (2 : Int32)), .val (.int (1 : Int32)), .unset, .unset, .unset, .unset] at_76 (pc' := 78) rfl rfl ?_
      refine W.iload at_78 (pc' := 80) rfl rfl ?_
      refine W.ifN at_80 (by decide) (pc' := 83) rfl ?_
      refine W.iloadN at_83 (pc' := 84) rfl rfl ?_
      refine W.iconst (2 : Int32) at_84 (pc' := 85) rfl rfl ?_
      refine W.iand at_85 (pc' := 86) rfl ?_
      by_cases f2 : (flags &&& (2 : Int32)) = 0
      · refine W.ifY at_86 (XT.i0_eq_t f2) (by decide) (pc' := 93) rfl ?_
        refine W.iconst (0 : Int32) at_93 (pc' := 94) rfl rfl ?_
        refine W.istore #[.val (.int a), .val (.int b), .val (.int flags), .val (.ref t), .val (.ref u0), .val (.ref u1), .val (.int (1 : Int32)), .val (.int (2 : Int32)), .val (.int (1 : Int32)), .val (.int (0 : Int32)), .unset, .unset, .unset] at_94 (pc' := 96) rfl rfl ?_
        refine W.iloadN at_96 (pc' := 97) rfl rfl ?_
        refine W.iconst (4 : Int32) at_97 (pc' := 98) rfl rfl ?_
        refine W.iand at_98 (pc' := 99) rfl ?_
        by_cases f3 : (flags &&& (4 : Int32)) = 0
        · refine W.ifY at_99 (XT.i0_eq_t f3) (by decide) (pc' := 106) rfl ?_
          refine W.iconst (0 : Int32) at_106 (pc' := 107) rfl rfl ?_
          refine W.istore #[.val (.int a), .val (.int b), .val (.int flags), .val (.ref t), .val (.ref u0), .val (.ref u1), .val (.int (1 : Int32)), .val (.int (2 : Int32)), .val (.int (1 : Int32)), .val (.int (0 : Int32)), .val (.int (0 : Int32)), .unset, .unset] at_107 (pc' := 109) rfl rfl ?_
          refine W.iload at_109 (pc' := 111) rfl rfl ?_
          refine W.ifN at_111 (by decide) (pc' := 114) rfl ?_
          refine W.aloadN at_114 (pc' := 115) rfl rfl rfl ?_
          refine W.iconst (0 : Int32) at_115 (pc' := 116) rfl rfl ?_
          refine W.callV 0 rfl (mRem33 l Z n0 a0 hw [(u1, (IA Z .int [b])), (u0, (IA Z .int [a]))] dv hdr t sl ix il rv va le ss a b) at_116 (wd hw 139 rfl) (wd hw 140 rfl) (wd hw 142 rfl) (wd hw 141 rfl) (wd hw 2 rfl) (wd hw 143 rfl) rfl (by decide) pd9 rfl rfl (Nat.le_of_ble_eq_true rfl) (Nat.le_of_ble_eq_true rfl) (Nat.le_of_ble_eq_true rfl) (Nat.le_of_ble_eq_true rfl) rfl (pc' := 119) rfl ?_
          rintro _ _ ⟨rfl, x0, hl1, hk1, rfl⟩
          show W _ _ _ _ _ _ 12 134 [(t, (ShTS Z (.ref sl) (.ref ix) (.ref il) (.ref rv) (.int (1 : Int32)) (.ref va) (.ref le) (.ref ss) (.int (1 : Int32)) (.int (2 : Int32)) .null (.int (1 : Int32)) (.int (0 : Int32)) (.int (0 : Int32)))), (sl, (IA Z .int x0)), (rv, (IA Z .int (List.replicate 16 0))), (va, (IA Z .int (a :: b :: List.replicate 14 0))), (le, (LA Z ((0 : Int64) :: (0 : Int64) :: List.replicate 14 0))), (ss, (IA Z .byte (3 :: List.replicate 15 0))), (il, (ShAL Z (.int (0 : Int32)) dv (.int (0 : Int32)))), (u1, (IA Z .int [b])), (u0, (IA Z .int [a]))] 119 #[.val (.int a), .val (.int b), .val (.int flags), .val (.ref t), .val (.ref u0), .val (.ref u1), .val (.int (1 : Int32)), .val (.int (2 : Int32)), .val (.int (1 : Int32)), .val (.int (0 : Int32)), .val (.int (0 : Int32)), .unset, .unset] []
          refine W.iload at_119 (pc' := 121) rfl rfl ?_
          refine W.ifY at_121 (by decide) (by decide) (pc' := 128) rfl ?_
          refine W.iload at_128 (pc' := 130) rfl rfl ?_
          refine W.ifY at_130 (by decide) (by decide) (pc' := 138) rfl ?_
          refine W.aloadN at_138 (pc' := 139) rfl rfl rfl ?_
          refine W.callV 0 rfl (mBC34 l Z n0 a0 hw [(u1, (IA Z .int [b])), (u0, (IA Z .int [a]))] dv hdr t sl ix il rv va le ss a b _) at_139 (wd hw 146 rfl) (wd hw 147 rfl) (wd hw 149 rfl) (wd hw 148 rfl) (wd hw 2 rfl) (wd hw 150 rfl) rfl (by decide) pd0 rfl rfl (Nat.le_of_ble_eq_true rfl) (Nat.le_of_ble_eq_true rfl) (Nat.le_of_ble_eq_true rfl) (Nat.le_of_ble_eq_true rfl) rfl (pc' := 142) rfl ?_
          intro v9 s9 q9
          rw [q9.1, q9.2]
          clear q9 v9 s9
          show W _ _ _ _ _ _ 12 134 [(t, (ShTS Z (.ref sl) (.ref ix) (.ref il) (.ref rv) (.int (1 : Int32)) (.ref va) (.ref le) (.ref ss) (.int (1 : Int32)) (.int (2 : Int32)) .null (.int (0 : Int32)) (.int (2 : Int32)) (.int (1 : Int32)))), (sl, (IA Z .int x0)), (rv, (IA Z .int (List.replicate 16 0))), (va, (IA Z .int (a :: b :: List.replicate 14 0))), (le, (LA Z ((0 : Int64) :: (0 : Int64) :: List.replicate 14 0))), (ss, (IA Z .byte (4 :: List.replicate 15 0))), (il, (ShAL Z (.int (0 : Int32)) dv (.int (0 : Int32)))), (u1, (IA Z .int [b])), (u0, (IA Z .int [a]))] 142 #[.val (.int a), .val (.int b), .val (.int flags), .val (.ref t), .val (.ref u0), .val (.ref u1), .val (.int (1 : Int32)), .val (.int (2 : Int32)), .val (.int (1 : Int32)), .val (.int (0 : Int32)), .val (.int (0 : Int32)), .unset, .unset] []
          refine W.iload at_142 (pc' := 144) rfl rfl ?_
          refine W.iload at_144 (pc' := 146) rfl rfl ?_
          refine W.ifN at_146 (by decide) (pc' := 149) rfl ?_
          refine W.iconst (1 : Int32) at_149 (pc' := 150) rfl rfl ?_
          refine W.goto at_150 (pc' := 154) (by decide) rfl ?_
          refine W.isub at_154 (pc' := 155) rfl ?_
          refine W.topI (1 : Int32) (by decide) ?_
          refine W.iload at_155 (pc' := 157) rfl rfl ?_
          refine W.ifY at_157 (by decide) (by decide) (pc' := 164) rfl ?_
          refine W.iconst (0 : Int32) at_164 (pc' := 165) rfl rfl ?_
          refine W.isub at_165 (pc' := 166) rfl ?_
          refine W.topI (1 : Int32) (by decide) ?_
          refine W.istore #[.val (.int a), .val (.int b), .val (.int flags), .val (.ref t), .val (.ref u0), .val (.ref u1), .val (.int (1 : Int32)), .val (.int (2 : Int32)), .val (.int (1 : Int32)), .val (.int (0 : Int32)), .val (.int (0 : Int32)), .val (.int (1 : Int32)), .unset] at_166 (pc' := 168) rfl rfl ?_
          refine W.aloadN at_168 (pc' := 169) rfl rfl rfl ?_
          refine W.iconst (0 : Int32) at_169 (pc' := 170) rfl rfl ?_
          refine W.callV 0 rfl (mG35 l Z n0 a0 hw [(u1, (IA Z .int [b])), (u0, (IA Z .int [a]))] dv hdr t sl ix il rv va le ss a b _) at_170 (wd hw 155 rfl) (wd hw 156 rfl) (wd hw 158 rfl) (wd hw 157 rfl) (wd hw 2 rfl) (wd hw 159 rfl) rfl (by decide) pd11 rfl rfl (Nat.le_of_ble_eq_true rfl) (Nat.le_of_ble_eq_true rfl) (Nat.le_of_ble_eq_true rfl) (Nat.le_of_ble_eq_true rfl) rfl (pc' := 173) rfl ?_
          intro v9 s9 q9
          rw [q9.1, q9.2]
          clear q9 v9 s9
          show W _ _ _ _ _ _ 12 134 [(t, (ShTS Z (.ref sl) (.ref ix) (.ref il) (.ref rv) (.int (1 : Int32)) (.ref va) (.ref le) (.ref ss) (.int (1 : Int32)) (.int (2 : Int32)) .null (.int (0 : Int32)) (.int (2 : Int32)) (.int (1 : Int32)))), (sl, (IA Z .int x0)), (rv, (IA Z .int (List.replicate 16 0))), (va, (IA Z .int (a :: b :: List.replicate 14 0))), (le, (LA Z ((0 : Int64) :: (0 : Int64) :: List.replicate 14 0))), (ss, (IA Z .byte (4 :: List.replicate 15 0))), (il, (ShAL Z (.int (0 : Int32)) dv (.int (0 : Int32)))), (u1, (IA Z .int [b])), (u0, (IA Z .int [a]))] 173 #[.val (.int a), .val (.int b), .val (.int flags), .val (.ref t), .val (.ref u0), .val (.ref u1), .val (.int (1 : Int32)), .val (.int (2 : Int32)), .val (.int (1 : Int32)), .val (.int (0 : Int32)), .val (.int (0 : Int32)), .val (.int (1 : Int32)), .unset] [(.int (4 : Int32))]
          refine W.iload at_173 (pc' := 175) rfl rfl ?_
          refine W.ifN at_175 (by decide) (pc' := 178) rfl ?_
          refine W.iconst (4 : Int32) at_178 (pc' := 179) rfl rfl ?_
          refine W.goto at_179 (pc' := 183) (by decide) rfl ?_
          refine W.icmpN at_183 (by decide) (pc' := 186) rfl ?_
          refine W.iconst (1 : Int32) at_186 (pc' := 187) rfl rfl ?_
          refine W.goto at_187 (pc' := 191) (by decide) rfl ?_
          refine W.istore #[.val (.int a), .val (.int b), .val (.int flags), .val (.ref t), .val (.ref u0), .val (.ref u1), .val (.int (1 : Int32)), .val (.int (2 : Int32)), .val (.int (1 : Int32)), .val (.int (0 : Int32)), .val (.int (0 : Int32)), .val (.int (1 : Int32)), .val (.int (1 : Int32))] at_191 (pc' := 193) rfl rfl ?_
          refine W.iload at_193 (pc' := 195) rfl rfl ?_
          refine W.ifN at_195 (by decide) (pc' := 198) rfl ?_
          refine W.iload at_198 (pc' := 200) rfl rfl ?_
          refine W.ifN at_200 (by decide) (pc' := 203) rfl ?_
          refine W.aloadN at_203 (pc' := 204) rfl rfl rfl ?_
          refine W.iconst (1 : Int32) at_204 (pc' := 205) rfl rfl ?_
          refine W.callV 0 rfl (mG36 l Z n0 a0 hw [(u1, (IA Z .int [b])), (u0, (IA Z .int [a]))] dv hdr t sl ix il rv va le ss a b _) at_205 (wd hw 155 rfl) (wd hw 156 rfl) (wd hw 158 rfl) (wd hw 157 rfl) (wd hw 2 rfl) (wd hw 159 rfl) rfl (by decide) pd11 rfl rfl (Nat.le_of_ble_eq_true rfl) (Nat.le_of_ble_eq_true rfl) (Nat.le_of_ble_eq_true rfl) (Nat.le_of_ble_eq_true rfl) rfl (pc' := 208) rfl ?_
          intro v9 s9 q9
          rw [q9.1, q9.2]
          clear q9 v9 s9
          show W _ _ _ _ _ _ 12 134 [(t, (ShTS Z (.ref sl) (.ref ix) (.ref il) (.ref rv) (.int (1 : Int32)) (.ref va) (.ref le) (.ref ss) (.int (1 : Int32)) (.int (2 : Int32)) .null (.int (0 : Int32)) (.int (2 : Int32)) (.int (1 : Int32)))), (sl, (IA Z .int x0)), (rv, (IA Z .int (List.replicate 16 0))), (va, (IA Z .int (a :: b :: List.replicate 14 0))), (le, (LA Z ((0 : Int64) :: (0 : Int64) :: List.replicate 14 0))), (ss, (IA Z .byte (4 :: List.replicate 15 0))), (il, (ShAL Z (.int (0 : Int32)) dv (.int (0 : Int32)))), (u1, (IA Z .int [b])), (u0, (IA Z .int [a]))] 208 #[.val (.int a), .val (.int b), .val (.int flags), .val (.ref t), .val (.ref u0), .val (.ref u1), .val (.int (1 : Int32)), .val (.int (2 : Int32)), .val (.int (1 : Int32)), .val (.int (0 : Int32)), .val (.int (0 : Int32)), .val (.int (1 : Int32)), .val (.int (1 : Int32))] [(.int (0 : Int32))]
          refine W.iload at_208 (pc' := 210) rfl rfl ?_
          refine W.ifY at_210 (by decide) (by decide) (pc' := 217) rfl ?_
          refine W.iconst (0 : Int32) at_217 (pc' := 218) rfl rfl ?_
          refine W.icmpN at_218 (by decide) (pc' := 221) rfl ?_
          refine W.iconst (1 : Int32) at_221 (pc' := 222) rfl rfl ?_
          refine W.goto at_222 (pc' := 226) (by decide) rfl ?_
          refine W.istore #[.val (.int a), .val (.int b), .val (.int flags), .val (.ref t), .val (.ref u0), .val (.ref u1), .val (.int (1 : Int32)), .val (.int (2 : Int32)), .val (.int (1 : Int32)), .val (.int (0 : Int32)), .val (.int (0 : Int32)), .val (.int (1 : Int32)), .val (.int (1 : Int32))] at_226 (pc' := 228) rfl rfl ?_
          refine W.iload at_228 (pc' := 230) rfl rfl ?_
          refine W.ifN at_230 (by decide) (pc' := 233) rfl ?_
          refine W.aloadN at_233 (pc' := 234) rfl rfl rfl ?_
          refine W.callV 0 rfl (mG37 l Z n0 a0 hw [(u1, (IA Z .int [b])), (u0, (IA Z .int [a]))] dv hdr t sl ix il rv va le ss a b _) at_234 (wd hw 160 rfl) (wd hw 161 rfl) (wd hw 163 rfl) (wd hw 162 rfl) (wd hw 2 rfl) (wd hw 164 rfl) rfl (by decide) pd12 rfl rfl (Nat.le_of_ble_eq_true rfl) (Nat.le_of_ble_eq_true rfl) (Nat.le_of_ble_eq_true rfl) (Nat.le_of_ble_eq_true rfl) rfl (pc' := 237) rfl ?_
          intro v9 s9 q9
          rw [q9.1, q9.2]
          clear q9 v9 s9
          show W _ _ _ _ _ _ 12 134 [(t, (ShTS Z (.ref sl) (.ref ix) (.ref il) (.ref rv) (.int (1 : Int32)) (.ref va) (.ref le) (.ref ss) (.int (1 : Int32)) (.int (2 : Int32)) .null (.int (0 : Int32)) (.int (2 : Int32)) (.int (1 : Int32)))), (sl, (IA Z .int x0)), (rv, (IA Z .int (List.replicate 16 0))), (va, (IA Z .int (a :: b :: List.replicate 14 0))), (le, (LA Z ((0 : Int64) :: (0 : Int64) :: List.replicate 14 0))), (ss, (IA Z .byte (4 :: List.replicate 15 0))), (il, (ShAL Z (.int (0 : Int32)) dv (.int (0 : Int32)))), (u1, (IA Z .int [b])), (u0, (IA Z .int [a]))] 237 #[.val (.int a), .val (.int b), .val (.int flags), .val (.ref t), .val (.ref u0), .val (.ref u1), .val (.int (1 : Int32)), .val (.int (2 : Int32)), .val (.int (1 : Int32)), .val (.int (0 : Int32)), .val (.int (0 : Int32)), .val (.int (1 : Int32)), .val (.int (1 : Int32))] [(.int (2 : Int32))]
          refine W.iload at_237 (pc' := 239) rfl rfl ?_
          refine W.icmpN at_239 (by decide) (pc' := 242) rfl ?_
          refine W.iconst (1 : Int32) at_242 (pc' := 243) rfl rfl ?_
          refine W.goto at_243 (pc' := 247) (by decide) rfl ?_
          refine W.istore #[.val (.int a), .val (.int b), .val (.int flags), .val (.ref t), .val (.ref u0), .val (.ref u1), .val (.int (1 : Int32)), .val (.int (2 : Int32)), .val (.int (1 : Int32)), .val (.int (0 : Int32)), .val (.int (0 : Int32)), .val (.int (1 : Int32)), .val (.int (1 : Int32))] at_247 (pc' := 249) rfl rfl ?_
          refine W.iload at_249 (pc' := 251) rfl rfl ?_
          refine W.ifN at_251 (by decide) (pc' := 254) rfl ?_
          refine W.aloadN at_254 (pc' := 255) rfl rfl rfl ?_
          refine W.callV 0 rfl (mG38 l Z n0 a0 hw [(u1, (IA Z .int [b])), (u0, (IA Z .int [a]))] dv hdr t sl ix il rv va le ss a b _) at_255 (wd hw 165 rfl) (wd hw 166 rfl) (wd hw 168 rfl) (wd hw 167 rfl) (wd hw 2 rfl) (wd hw 169 rfl) rfl (by decide) pd12 rfl rfl (Nat.le_of_ble_eq_true rfl) (Nat.le_of_ble_eq_true rfl) (Nat.le_of_ble_eq_true rfl) (Nat.le_of_ble_eq_true rfl) rfl (pc' := 258) rfl ?_
          intro v9 s9 q9
          rw [q9.1, q9.2]
          clear q9 v9 s9
          show W _ _ _ _ _ _ 12 134 [(t, (ShTS Z (.ref sl) (.ref ix) (.ref il) (.ref rv) (.int (1 : Int32)) (.ref va) (.ref le) (.ref ss) (.int (1 : Int32)) (.int (2 : Int32)) .null (.int (0 : Int32)) (.int (2 : Int32)) (.int (1 : Int32)))), (sl, (IA Z .int x0)), (rv, (IA Z .int (List.replicate 16 0))), (va, (IA Z .int (a :: b :: List.replicate 14 0))), (le, (LA Z ((0 : Int64) :: (0 : Int64) :: List.replicate 14 0))), (ss, (IA Z .byte (4 :: List.replicate 15 0))), (il, (ShAL Z (.int (0 : Int32)) dv (.int (0 : Int32)))), (u1, (IA Z .int [b])), (u0, (IA Z .int [a]))] 258 #[.val (.int a), .val (.int b), .val (.int flags), .val (.ref t), .val (.ref u0), .val (.ref u1), .val (.int (1 : Int32)), .val (.int (2 : Int32)), .val (.int (1 : Int32)), .val (.int (0 : Int32)), .val (.int (0 : Int32)), .val (.int (1 : Int32)), .val (.int (1 : Int32))] [(.int (0 : Int32))]
          refine W.ifN at_258 (by decide) (pc' := 261) rfl ?_
          refine W.iconst (1 : Int32) at_261 (pc' := 262) rfl rfl ?_
          refine W.goto at_262 (pc' := 266) (by decide) rfl ?_
          refine W.istore #[.val (.int a), .val (.int b), .val (.int flags), .val (.ref t), .val (.ref u0), .val (.ref u1), .val (.int (1 : Int32)), .val (.int (2 : Int32)), .val (.int (1 : Int32)), .val (.int (0 : Int32)), .val (.int (0 : Int32)), .val (.int (1 : Int32)), .val (.int (1 : Int32))] at_266 (pc' := 268) rfl rfl ?_
          refine W.iload at_268 (pc' := 270) rfl rfl ?_
          refine W.ifN at_270 (by decide) (pc' := 273) rfl ?_
          refine W.aloadN at_273 (pc' := 274) rfl rfl rfl ?_
          refine W.callV 0 rfl (mG39 l Z n0 a0 hw [(u1, (IA Z .int [b])), (u0, (IA Z .int [a]))] dv hdr t sl ix il rv va le ss a b _) at_274 (wd hw 170 rfl) (wd hw 171 rfl) (wd hw 173 rfl) (wd hw 172 rfl) (wd hw 2 rfl) (wd hw 174 rfl) rfl (by decide) pd12 rfl rfl (Nat.le_of_ble_eq_true rfl) (Nat.le_of_ble_eq_true rfl) (Nat.le_of_ble_eq_true rfl) (Nat.le_of_ble_eq_true rfl) rfl (pc' := 277) rfl ?_
          intro v9 s9 q9
          rw [q9.1, q9.2]
          clear q9 v9 s9
          show W _ _ _ _ _ _ 12 134 [(t, (ShTS Z (.ref sl) (.ref ix) (.ref il) (.ref rv) (.int (1 : Int32)) (.ref va) (.ref le) (.ref ss) (.int (1 : Int32)) (.int (2 : Int32)) .null (.int (0 : Int32)) (.int (2 : Int32)) (.int (1 : Int32)))), (sl, (IA Z .int x0)), (rv, (IA Z .int (List.replicate 16 0))), (va, (IA Z .int (a :: b :: List.replicate 14 0))), (le, (LA Z ((0 : Int64) :: (0 : Int64) :: List.replicate 14 0))), (ss, (IA Z .byte (4 :: List.replicate 15 0))), (il, (ShAL Z (.int (0 : Int32)) dv (.int (0 : Int32)))), (u1, (IA Z .int [b])), (u0, (IA Z .int [a]))] 277 #[.val (.int a), .val (.int b), .val (.int flags), .val (.ref t), .val (.ref u0), .val (.ref u1), .val (.int (1 : Int32)), .val (.int (2 : Int32)), .val (.int (1 : Int32)), .val (.int (0 : Int32)), .val (.int (0 : Int32)), .val (.int (1 : Int32)), .val (.int (1 : Int32))] [(.int (1 : Int32))]
          refine W.iload at_277 (pc' := 279) rfl rfl ?_
          refine W.icmpN at_279 (by decide) (pc' := 282) rfl ?_
          refine W.iconst (1 : Int32) at_282 (pc' := 283) rfl rfl ?_
          refine W.goto at_283 (pc' := 287) (by decide) rfl ?_
          refine W.istore #[.val (.int a), .val (.int b), .val (.int flags), .val (.ref t), .val (.ref u0), .val (.ref u1), .val (.int (1 : Int32)), .val (.int (2 : Int32)), .val (.int (1 : Int32)), .val (.int (0 : Int32)), .val (.int (0 : Int32)), .val (.int (1 : Int32)), .val (.int (1 : Int32))] at_287 (pc' := 289) rfl rfl ?_
          refine W.iload at_289 (pc' := 291) rfl rfl ?_
          exact W.retN (t := .boolean) 1 at_291 rfl (by simp) rfl (by decide) (by decide) rfl
        · refine W.ifN at_99 (XT.i0_eq_f f3) (pc' := 102) rfl ?_
          refine W.iconst (1 : Int32) at_102 (pc' := 103) rfl rfl ?_
          refine W.goto at_103 (pc' := 107) (by decide) rfl ?_
          refine W.istore #[.val (.int a), .val (.int b), .val (.int flags), .val (.ref t), .val (.ref u0), .val (.ref u1), .val (.int (1 : Int32)), .val (.int (2 : Int32)), .val (.int (1 : Int32)), .val (.int (0 : Int32)), .val (.int (1 : Int32)), .unset, .unset] at_107 (pc' := 109) rfl rfl ?_
          refine W.iload at_109 (pc' := 111) rfl rfl ?_
          refine W.ifN at_111 (by decide) (pc' := 114) rfl ?_
          refine W.aloadN at_114 (pc' := 115) rfl rfl rfl ?_
          refine W.iconst (0 : Int32) at_115 (pc' := 116) rfl rfl ?_
          refine W.callV 0 rfl (mRem33 l Z n0 a0 hw [(u1, (IA Z .int [b])), (u0, (IA Z .int [a]))] dv hdr t sl ix il rv va le ss a b) at_116 (wd hw 139 rfl) (wd hw 140 rfl) (wd hw 142 rfl) (wd hw 141 rfl) (wd hw 2 rfl) (wd hw 143 rfl) rfl (by decide) pd9 rfl rfl (Nat.le_of_ble_eq_true rfl) (Nat.le_of_ble_eq_true rfl) (Nat.le_of_ble_eq_true rfl) (Nat.le_of_ble_eq_true rfl) rfl (pc' := 119) rfl ?_
          rintro _ _ ⟨rfl, x0, hl1, hk1, rfl⟩
          show W _ _ _ _ _ _ 12 134 [(t, (ShTS Z (.ref sl) (.ref ix) (.ref il) (.ref rv) (.int (1 : Int32)) (.ref va) (.ref le) (.ref ss) (.int (1 : Int32)) (.int (2 : Int32)) .null (.int (1 : Int32)) (.int (0 : Int32)) (.int (0 : Int32)))), (sl, (IA Z .int x0)), (rv, (IA Z .int (List.replicate 16 0))), (va, (IA Z .int (a :: b :: List.replicate 14 0))), (le, (LA Z ((0 : Int64) :: (0 : Int64) :: List.replicate 14 0))), (ss, (IA Z .byte (3 :: List.replicate 15 0))), (il, (ShAL Z (.int (0 : Int32)) dv (.int (0 : Int32)))), (u1, (IA Z .int [b])), (u0, (IA Z .int [a]))] 119 #[.val (.int a), .val (.int b), .val (.int flags), .val (.ref t), .val (.ref u0), .val (.ref u1), .val (.int (1 : Int32)), .val (.int (2 : Int32)), .val (.int (1 : Int32)), .val (.int (0 : Int32)), .val (.int (1 : Int32)), .unset, .unset] []
          refine W.iload at_119 (pc' := 121) rfl rfl ?_
          refine W.ifN at_121 (by decide) (pc' := 124) rfl ?_
          refine W.aloadN at_124 (pc' := 125) rfl rfl rfl ?_
          refine W.callV 0 rfl (mBC34 l Z n0 a0 hw [(u1, (IA Z .int [b])), (u0, (IA Z .int [a]))] dv hdr t sl ix il rv va le ss a b _) at_125 (wd hw 146 rfl) (wd hw 147 rfl) (wd hw 149 rfl) (wd hw 148 rfl) (wd hw 2 rfl) (wd hw 150 rfl) rfl (by decide) pd0 rfl rfl (Nat.le_of_ble_eq_true rfl) (Nat.le_of_ble_eq_true rfl) (Nat.le_of_ble_eq_true rfl) (Nat.le_of_ble_eq_true rfl) rfl (pc' := 128) rfl ?_
          intro v9 s9 q9
          rw [q9.1, q9.2]
          clear q9 v9 s9
          show W _ _ _ _ _ _ 12 134 [(t, (ShTS Z (.ref sl) (.ref ix) (.ref il) (.ref rv) (.int (1 : Int32)) (.ref va) (.ref le) (.ref ss) (.int (1 : Int32)) (.int (2 : Int32)) .null (.int (0 : Int32)) (.int (2 : Int32)) (.int (1 : Int32)))), (sl, (IA Z .int x0)), (rv, (IA Z .int (List.replicate 16 0))), (va, (IA Z .int (a :: b :: List.replicate 14 0))), (le, (LA Z ((0 : Int64) :: (0 : Int64) :: List.replicate 14 0))), (ss, (IA Z .byte (4 :: List.replicate 15 0))), (il, (ShAL Z (.int (0 : Int32)) dv (.int (0 : Int32)))), (u1, (IA Z .int [b])), (u0, (IA Z .int [a]))] 128 #[.val (.int a), .val (.int b), .val (.int flags), .val (.ref t), .val (.ref u0), .val (.ref u1), .val (.int (1 : Int32)), .val (.int (2 : Int32)), .val (.int (1 : Int32)), .val (.int (0 : Int32)), .val (.int (1 : Int32)), .unset, .unset] []
          refine W.iload at_128 (pc' := 130) rfl rfl ?_
          refine W.ifY at_130 (by decide) (by decide) (pc' := 138) rfl ?_
          refine W.aloadN at_138 (pc' := 139) rfl rfl rfl ?_
          refine W.callV 0 rfl (mBC40 l Z n0 a0 hw [(u1, (IA Z .int [b])), (u0, (IA Z .int [a]))] dv hdr t sl ix il rv va le ss a b _) at_139 (wd hw 146 rfl) (wd hw 147 rfl) (wd hw 149 rfl) (wd hw 148 rfl) (wd hw 2 rfl) (wd hw 150 rfl) rfl (by decide) pd0 rfl rfl (Nat.le_of_ble_eq_true rfl) (Nat.le_of_ble_eq_true rfl) (Nat.le_of_ble_eq_true rfl) (Nat.le_of_ble_eq_true rfl) rfl (pc' := 142) rfl ?_
          intro v9 s9 q9
          rw [q9.1, q9.2]
          clear q9 v9 s9
          show W _ _ _ _ _ _ 12 134 [(t, (ShTS Z (.ref sl) (.ref ix) (.ref il) (.ref rv) (.int (1 : Int32)) (.ref va) (.ref le) (.ref ss) (.int (1 : Int32)) (.int (2 : Int32)) .null (.int (0 : Int32)) (.int (2 : Int32)) (.int (1 : Int32)))), (sl, (IA Z .int x0)), (rv, (IA Z .int (List.replicate 16 0))), (va, (IA Z .int (a :: b :: List.replicate 14 0))), (le, (LA Z ((0 : Int64) :: (0 : Int64) :: List.replicate 14 0))), (ss, (IA Z .byte (4 :: List.replicate 15 0))), (il, (ShAL Z (.int (0 : Int32)) dv (.int (0 : Int32)))), (u1, (IA Z .int [b])), (u0, (IA Z .int [a]))] 142 #[.val (.int a), .val (.int b), .val (.int flags), .val (.ref t), .val (.ref u0), .val (.ref u1), .val (.int (1 : Int32)), .val (.int (2 : Int32)), .val (.int (1 : Int32)), .val (.int (0 : Int32)), .val (.int (1 : Int32)), .unset, .unset] []
          refine W.iload at_142 (pc' := 144) rfl rfl ?_
          refine W.iload at_144 (pc' := 146) rfl rfl ?_
          refine W.ifN at_146 (by decide) (pc' := 149) rfl ?_
          refine W.iconst (1 : Int32) at_149 (pc' := 150) rfl rfl ?_
          refine W.goto at_150 (pc' := 154) (by decide) rfl ?_
          refine W.isub at_154 (pc' := 155) rfl ?_
          refine W.topI (1 : Int32) (by decide) ?_
          refine W.iload at_155 (pc' := 157) rfl rfl ?_
          refine W.ifY at_157 (by decide) (by decide) (pc' := 164) rfl ?_
          refine W.iconst (0 : Int32) at_164 (pc' := 165) rfl rfl ?_
          refine W.isub at_165 (pc' := 166) rfl ?_
          refine W.topI (1 : Int32) (by decide) ?_
          refine W.istore #[.val (.int a), .val (.int b), .val (.int flags), .val (.ref t), .val (.ref u0), .val (.ref u1), .val (.int (1 : Int32)), .val (.int (2 : Int32)), .val (.int (1 : Int32)), .val (.int (0 : Int32)), .val (.int (1 : Int32)), .val (.int (1 : Int32)), .unset] at_166 (pc' := 168) rfl rfl ?_
          refine W.aloadN at_168 (pc' := 169) rfl rfl rfl ?_
          refine W.iconst (0 : Int32) at_169 (pc' := 170) rfl rfl ?_
          refine W.callV 0 rfl (mG35 l Z n0 a0 hw [(u1, (IA Z .int [b])), (u0, (IA Z .int [a]))] dv hdr t sl ix il rv va le ss a b _) at_170 (wd hw 155 rfl) (wd hw 156 rfl) (wd hw 158 rfl) (wd hw 157 rfl) (wd hw 2 rfl) (wd hw 159 rfl) rfl (by decide) pd11 rfl rfl (Nat.le_of_ble_eq_true rfl) (Nat.le_of_ble_eq_true rfl) (Nat.le_of_ble_eq_true rfl) (Nat.le_of_ble_eq_true rfl) rfl (pc' := 173) rfl ?_
          intro v9 s9 q9
          rw [q9.1, q9.2]
          clear q9 v9 s9
          show W _ _ _ _ _ _ 12 134 [(t, (ShTS Z (.ref sl) (.ref ix) (.ref il) (.ref rv) (.int (1 : Int32)) (.ref va) (.ref le) (.ref ss) (.int (1 : Int32)) (.int (2 : Int32)) .null (.int (0 : Int32)) (.int (2 : Int32)) (.int (1 : Int32)))), (sl, (IA Z .int x0)), (rv, (IA Z .int (List.replicate 16 0))), (va, (IA Z .int (a :: b :: List.replicate 14 0))), (le, (LA Z ((0 : Int64) :: (0 : Int64) :: List.replicate 14 0))), (ss, (IA Z .byte (4 :: List.replicate 15 0))), (il, (ShAL Z (.int (0 : Int32)) dv (.int (0 : Int32)))), (u1, (IA Z .int [b])), (u0, (IA Z .int [a]))] 173 #[.val (.int a), .val (.int b), .val (.int flags), .val (.ref t), .val (.ref u0), .val (.ref u1), .val (.int (1 : Int32)), .val (.int (2 : Int32)), .val (.int (1 : Int32)), .val (.int (0 : Int32)), .val (.int (1 : Int32)), .val (.int (1 : Int32)), .unset] [(.int (4 : Int32))]
          refine W.iload at_173 (pc' := 175) rfl rfl ?_
          refine W.ifN at_175 (by decide) (pc' := 178) rfl ?_
          refine W.iconst (4 : Int32) at_178 (pc' := 179) rfl rfl ?_
          refine W.goto at_179 (pc' := 183) (by decide) rfl ?_
          refine W.icmpN at_183 (by decide) (pc' := 186) rfl ?_
          refine W.iconst (1 : Int32) at_186 (pc' := 187) rfl rfl ?_
          refine W.goto at_187 (pc' := 191) (by decide) rfl ?_
          refine W.istore #[.val (.int a), .val (.int b), .val (.int flags), .val (.ref t), .val (.ref u0), .val (.ref u1), .val (.int (1 : Int32)), .val (.int (2 : Int32)), .val (.int (1 : Int32)), .val (.int (0 : Int32)), .val (.int (1 : Int32)), .val (.int (1 : Int32)), .val (.int (1 : Int32))] at_191 (pc' := 193) rfl rfl ?_
          refine W.iload at_193 (pc' := 195) rfl rfl ?_
          refine W.ifN at_195 (by decide) (pc' := 198) rfl ?_
          refine W.iload at_198 (pc' := 200) rfl rfl ?_
          refine W.ifN at_200 (by decide) (pc' := 203) rfl ?_
          refine W.aloadN at_203 (pc' := 204) rfl rfl rfl ?_
          refine W.iconst (1 : Int32) at_204 (pc' := 205) rfl rfl ?_
          refine W.callV 0 rfl (mG36 l Z n0 a0 hw [(u1, (IA Z .int [b])), (u0, (IA Z .int [a]))] dv hdr t sl ix il rv va le ss a b _) at_205 (wd hw 155 rfl) (wd hw 156 rfl) (wd hw 158 rfl) (wd hw 157 rfl) (wd hw 2 rfl) (wd hw 159 rfl) rfl (by decide) pd11 rfl rfl (Nat.le_of_ble_eq_true rfl) (Nat.le_of_ble_eq_true rfl) (Nat.le_of_ble_eq_true rfl) (Nat.le_of_ble_eq_true rfl) rfl (pc' := 208) rfl ?_
          intro v9 s9 q9
          rw [q9.1, q9.2]
          clear q9 v9 s9
          show W _ _ _ _ _ _ 12 134 [(t, (ShTS Z (.ref sl) (.ref ix) (.ref il) (.ref rv) (.int (1 : Int32)) (.ref va) (.ref le) (.ref ss) (.int (1 : Int32)) (.int (2 : Int32)) .null (.int (0 : Int32)) (.int (2 : Int32)) (.int (1 : Int32)))), (sl, (IA Z .int x0)), (rv, (IA Z .int (List.replicate 16 0))), (va, (IA Z .int (a :: b :: List.replicate 14 0))), (le, (LA Z ((0 : Int64) :: (0 : Int64) :: List.replicate 14 0))), (ss, (IA Z .byte (4 :: List.replicate 15 0))), (il, (ShAL Z (.int (0 : Int32)) dv (.int (0 : Int32)))), (u1, (IA Z .int [b])), (u0, (IA Z .int [a]))] 208 #[.val (.int a), .val (.int b), .val (.int flags), .val (.ref t), .val (.ref u0), .val (.ref u1), .val (.int (1 : Int32)), .val (.int (2 : Int32)), .val (.int (1 : Int32)), .val (.int (0 : Int32)), .val (.int (1 : Int32)), .val (.int (1 : Int32)), .val (.int (1 : Int32))] [(.int (0 : Int32))]
          refine W.iload at_208 (pc' := 210) rfl rfl ?_
          refine W.ifY at_210 (by decide) (by decide) (pc' := 217) rfl ?_
          refine W.iconst (0 : Int32) at_217 (pc' := 218) rfl rfl ?_
          refine W.icmpN at_218 (by decide) (pc' := 221) rfl ?_
          refine W.iconst (1 : Int32) at_221 (pc' := 222) rfl rfl ?_
          refine W.goto at_222 (pc' := 226) (by decide) rfl ?_
          refine W.istore #[.val (.int a), .val (.int b), .val (.int flags), .val (.ref t), .val (.ref u0), .val (.ref u1), .val (.int (1 : Int32)), .val (.int (2 : Int32)), .val (.int (1 : Int32)), .val (.int (0 : Int32)), .val (.int (1 : Int32)), .val (.int (1 : Int32)), .val (.int (1 : Int32))] at_226 (pc' := 228) rfl rfl ?_
          refine W.iload at_228 (pc' := 230) rfl rfl ?_
          refine W.ifN at_230 (by decide) (pc' := 233) rfl ?_
          refine W.aloadN at_233 (pc' := 234) rfl rfl rfl ?_
          refine W.callV 0 rfl (mG37 l Z n0 a0 hw [(u1, (IA Z .int [b])), (u0, (IA Z .int [a]))] dv hdr t sl ix il rv va le ss a b _) at_234 (wd hw 160 rfl) (wd hw 161 rfl) (wd hw 163 rfl) (wd hw 162 rfl) (wd hw 2 rfl) (wd hw 164 rfl) rfl (by decide) pd12 rfl rfl (Nat.le_of_ble_eq_true rfl) (Nat.le_of_ble_eq_true rfl) (Nat.le_of_ble_eq_true rfl) (Nat.le_of_ble_eq_true rfl) rfl (pc' := 237) rfl ?_
          intro v9 s9 q9
          rw [q9.1, q9.2]
          clear q9 v9 s9
          show W _ _ _ _ _ _ 12 134 [(t, (ShTS Z (.ref sl) (.ref ix) (.ref il) (.ref rv) (.int (1 : Int32)) (.ref va) (.ref le) (.ref ss) (.int (1 : Int32)) (.int (2 : Int32)) .null (.int (0 : Int32)) (.int (2 : Int32)) (.int (1 : Int32)))), (sl, (IA Z .int x0)), (rv, (IA Z .int (List.replicate 16 0))), (va, (IA Z .int (a :: b :: List.replicate 14 0))), (le, (LA Z ((0 : Int64) :: (0 : Int64) :: List.replicate 14 0))), (ss, (IA Z .byte (4 :: List.replicate 15 0))), (il, (ShAL Z (.int (0 : Int32)) dv (.int (0 : Int32)))), (u1, (IA Z .int [b])), (u0, (IA Z .int [a]))] 237 #[.val (.int a), .val (.int b), .val (.int flags), .val (.ref t), .val (.ref u0), .val (.ref u1), .val (.int (1 : Int32)), .val (.int (2 : Int32)), .val (.int (1 : Int32)), .val (.int (0 : Int32)), .val (.int (1 : Int32)), .val (.int (1 : Int32)), .val (.int (1 : Int32))] [(.int (2 : Int32))]
          refine W.iload at_237 (pc' := 239) rfl rfl ?_
          refine W.icmpN at_239 (by decide) (pc' := 242) rfl ?_
          refine W.iconst (1 : Int32) at_242 (pc' := 243) rfl rfl ?_
          refine W.goto at_243 (pc' := 247) (by decide) rfl ?_
          refine W.istore #[.val (.int a), .val (.int b), .val (.int flags), .val (.ref t), .val (.ref u0), .val (.ref u1), .val (.int (1 : Int32)), .val (.int (2 : Int32)), .val (.int (1 : Int32)), .val (.int (0 : Int32)), .val (.int (1 : Int32)), .val (.int (1 : Int32)), .val (.int (1 : Int32))] at_247 (pc' := 249) rfl rfl ?_
          refine W.iload at_249 (pc' := 251) rfl rfl ?_
          refine W.ifN at_251 (by decide) (pc' := 254) rfl ?_
          refine W.aloadN at_254 (pc' := 255) rfl rfl rfl ?_
          refine W.callV 0 rfl (mG38 l Z n0 a0 hw [(u1, (IA Z .int [b])), (u0, (IA Z .int [a]))] dv hdr t sl ix il rv va le ss a b _) at_255 (wd hw 165 rfl) (wd hw 166 rfl) (wd hw 168 rfl) (wd hw 167 rfl) (wd hw 2 rfl) (wd hw 169 rfl) rfl (by decide) pd12 rfl rfl (Nat.le_of_ble_eq_true rfl) (Nat.le_of_ble_eq_true rfl) (Nat.le_of_ble_eq_true rfl) (Nat.le_of_ble_eq_true rfl) rfl (pc' := 258) rfl ?_
          intro v9 s9 q9
          rw [q9.1, q9.2]
          clear q9 v9 s9
          show W _ _ _ _ _ _ 12 134 [(t, (ShTS Z (.ref sl) (.ref ix) (.ref il) (.ref rv) (.int (1 : Int32)) (.ref va) (.ref le) (.ref ss) (.int (1 : Int32)) (.int (2 : Int32)) .null (.int (0 : Int32)) (.int (2 : Int32)) (.int (1 : Int32)))), (sl, (IA Z .int x0)), (rv, (IA Z .int (List.replicate 16 0))), (va, (IA Z .int (a :: b :: List.replicate 14 0))), (le, (LA Z ((0 : Int64) :: (0 : Int64) :: List.replicate 14 0))), (ss, (IA Z .byte (4 :: List.replicate 15 0))), (il, (ShAL Z (.int (0 : Int32)) dv (.int (0 : Int32)))), (u1, (IA Z .int [b])), (u0, (IA Z .int [a]))] 258 #[.val (.int a), .val (.int b), .val (.int flags), .val (.ref t), .val (.ref u0), .val (.ref u1), .val (.int (1 : Int32)), .val (.int (2 : Int32)), .val (.int (1 : Int32)), .val (.int (0 : Int32)), .val (.int (1 : Int32)), .val (.int (1 : Int32)), .val (.int (1 : Int32))] [(.int (0 : Int32))]
          refine W.ifN at_258 (by decide) (pc' := 261) rfl ?_
          refine W.iconst (1 : Int32) at_261 (pc' := 262) rfl rfl ?_
          refine W.goto at_262 (pc' := 266) (by decide) rfl ?_
          refine W.istore #[.val (.int a), .val (.int b), .val (.int flags), .val (.ref t), .val (.ref u0), .val (.ref u1), .val (.int (1 : Int32)), .val (.int (2 : Int32)), .val (.int (1 : Int32)), .val (.int (0 : Int32)), .val (.int (1 : Int32)), .val (.int (1 : Int32)), .val (.int (1 : Int32))] at_266 (pc' := 268) rfl rfl ?_
          refine W.iload at_268 (pc' := 270) rfl rfl ?_
          refine W.ifN at_270 (by decide) (pc' := 273) rfl ?_
          refine W.aloadN at_273 (pc' := 274) rfl rfl rfl ?_
          refine W.callV 0 rfl (mG39 l Z n0 a0 hw [(u1, (IA Z .int [b])), (u0, (IA Z .int [a]))] dv hdr t sl ix il rv va le ss a b _) at_274 (wd hw 170 rfl) (wd hw 171 rfl) (wd hw 173 rfl) (wd hw 172 rfl) (wd hw 2 rfl) (wd hw 174 rfl) rfl (by decide) pd12 rfl rfl (Nat.le_of_ble_eq_true rfl) (Nat.le_of_ble_eq_true rfl) (Nat.le_of_ble_eq_true rfl) (Nat.le_of_ble_eq_true rfl) rfl (pc' := 277) rfl ?_
          intro v9 s9 q9
          rw [q9.1, q9.2]
          clear q9 v9 s9
          show W _ _ _ _ _ _ 12 134 [(t, (ShTS Z (.ref sl) (.ref ix) (.ref il) (.ref rv) (.int (1 : Int32)) (.ref va) (.ref le) (.ref ss) (.int (1 : Int32)) (.int (2 : Int32)) .null (.int (0 : Int32)) (.int (2 : Int32)) (.int (1 : Int32)))), (sl, (IA Z .int x0)), (rv, (IA Z .int (List.replicate 16 0))), (va, (IA Z .int (a :: b :: List.replicate 14 0))), (le, (LA Z ((0 : Int64) :: (0 : Int64) :: List.replicate 14 0))), (ss, (IA Z .byte (4 :: List.replicate 15 0))), (il, (ShAL Z (.int (0 : Int32)) dv (.int (0 : Int32)))), (u1, (IA Z .int [b])), (u0, (IA Z .int [a]))] 277 #[.val (.int a), .val (.int b), .val (.int flags), .val (.ref t), .val (.ref u0), .val (.ref u1), .val (.int (1 : Int32)), .val (.int (2 : Int32)), .val (.int (1 : Int32)), .val (.int (0 : Int32)), .val (.int (1 : Int32)), .val (.int (1 : Int32)), .val (.int (1 : Int32))] [(.int (1 : Int32))]
          refine W.iload at_277 (pc' := 279) rfl rfl ?_
          refine W.icmpN at_279 (by decide) (pc' := 282) rfl ?_
          refine W.iconst (1 : Int32) at_282 (pc' := 283) rfl rfl ?_
          refine W.goto at_283 (pc' := 287) (by decide) rfl ?_
          refine W.istore #[.val (.int a), .val (.int b), .val (.int flags), .val (.ref t), .val (.ref u0), .val (.ref u1), .val (.int (1 : Int32)), .val (.int (2 : Int32)), .val (.int (1 : Int32)), .val (.int (0 : Int32)), .val (.int (1 : Int32)), .val (.int (1 : Int32)), .val (.int (1 : Int32))] at_287 (pc' := 289) rfl rfl ?_
          refine W.iload at_289 (pc' := 291) rfl rfl ?_
          exact W.retN (t := .boolean) 1 at_291 rfl (by simp) rfl (by decide) (by decide) rfl
      · refine W.ifN at_86 (XT.i0_eq_f f2) (pc' := 89) rfl ?_
        refine W.iconst (1 : Int32) at_89 (pc' := 90) rfl rfl ?_
        refine W.goto at_90 (pc' := 94) (by decide) rfl ?_
        refine W.istore #[.val (.int a), .val (.int b), .val (.int flags), .val (.ref t), .val (.ref u0), .val (.ref u1), .val (.int (1 : Int32)), .val (.int (2 : Int32)), .val (.int (1 : Int32)), .val (.int (1 : Int32)), .unset, .unset, .unset] at_94 (pc' := 96) rfl rfl ?_
        refine W.iloadN at_96 (pc' := 97) rfl rfl ?_
        refine W.iconst (4 : Int32) at_97 (pc' := 98) rfl rfl ?_
        refine W.iand at_98 (pc' := 99) rfl ?_
        by_cases f3 : (flags &&& (4 : Int32)) = 0
        · refine W.ifY at_99 (XT.i0_eq_t f3) (by decide) (pc' := 106) rfl ?_
          refine W.iconst (0 : Int32) at_106 (pc' := 107) rfl rfl ?_
          refine W.istore #[.val (.int a), .val (.int b), .val (.int flags), .val (.ref t), .val (.ref u0), .val (.ref u1), .val (.int (1 : Int32)), .val (.int (2 : Int32)), .val (.int (1 : Int32)), .val (.int (1 : Int32)), .val (.int (0 : Int32)), .unset, .unset] at_107 (pc' := 109) rfl rfl ?_
          refine W.iload at_109 (pc' := 111) rfl rfl ?_
          refine W.ifN at_111 (by decide) (pc' := 114) rfl ?_
          refine W.aloadN at_114 (pc' := 115) rfl rfl rfl ?_
          refine W.iconst (0 : Int32) at_115 (pc' := 116) rfl rfl ?_
          refine W.callV 0 rfl (mRem33 l Z n0 a0 hw [(u1, (IA Z .int [b])), (u0, (IA Z .int [a]))] dv hdr t sl ix il rv va le ss a b) at_116 (wd hw 139 rfl) (wd hw 140 rfl) (wd hw 142 rfl) (wd hw 141 rfl) (wd hw 2 rfl) (wd hw 143 rfl) rfl (by decide) pd9 rfl rfl (Nat.le_of_ble_eq_true rfl) (Nat.le_of_ble_eq_true rfl) (Nat.le_of_ble_eq_true rfl) (Nat.le_of_ble_eq_true rfl) rfl (pc' := 119) rfl ?_
          rintro _ _ ⟨rfl, x0, hl1, hk1, rfl⟩
          show W _ _ _ _ _ _ 12 134 [(t, (ShTS Z (.ref sl) (.ref ix) (.ref il) (.ref rv) (.int (1 : Int32)) (.ref va) (.ref le) (.ref ss) (.int (1 : Int32)) (.int (2 : Int32)) .null (.int (1 : Int32)) (.int (0 : Int32)) (.int (0 : Int32)))), (sl, (IA Z .int x0)), (rv, (IA Z .int (List.replicate 16 0))), (va, (IA Z .int (a :: b :: List.replicate 14 0))), (le, (LA Z ((0 : Int64) :: (0 : Int64) :: List.replicate 14 0))), (ss, (IA Z .byte (3 :: List.replicate 15 0))), (il, (ShAL Z (.int (0 : Int32)) dv (.int (0 : Int32)))), (u1, (IA Z .int [b])), (u0, (IA Z .int [a]))] 119 #[.val (.int a), .val (.int b), .val (.int flags), .val (.ref t), .val (.ref u0), .val (.ref u1), .val (.int (1 : Int32)), .val (.int (2 : Int32)), .val (.int (1 : Int32)), .val (.int (1 : Int32)), .val (.int (0 : Int32)), .unset, .unset] []
          refine W.iload at_119 (pc' := 121) rfl rfl ?_
          refine W.ifY at_121 (by decide) (by decide) (pc' := 128) rfl ?_
          refine W.iload at_128 (pc' := 130) rfl rfl ?_
          refine W.ifN at_130 (by decide) (pc' := 133) rfl ?_
          refine W.aloadN at_133 (pc' := 134) rfl rfl rfl ?_
          refine W.iconst (1 : Int32) at_134 (pc' := 135) rfl rfl ?_
          refine W.callV 0 rfl (mRem42 l Z n0 a0 hw [(u1, (IA Z .int [b])), (u0, (IA Z .int [a]))] dv hdr t sl ix il rv va le ss a b _ hl1 hk1.1 hk1.2) at_135 (wd hw 139 rfl) (wd hw 140 rfl) (wd hw 142 rfl) (wd hw 141 rfl) (wd hw 2 rfl) (wd hw 143 rfl) rfl (by decide) pd9 rfl rfl (Nat.le_of_ble_eq_true rfl) (Nat.le_of_ble_eq_true rfl) (Nat.le_of_ble_eq_true rfl) (Nat.le_of_ble_eq_true rfl) rfl (pc' := 138) rfl ?_
          rintro _ _ ⟨rfl, x1, hl1, hk1, rfl⟩
          show W _ _ _ _ _ _ 12 134 [(t, (ShTS Z (.ref sl) (.ref ix) (.ref il) (.ref rv) (.int (1 : Int32)) (.ref va) (.ref le) (.ref ss) (.int (0 : Int32)) (.int (2 : Int32)) .null (.int (2 : Int32)) (.int (0 : Int32)) (.int (0 : Int32)))), (sl, (IA Z .int x1)), (rv, (IA Z .int (0 :: 1 :: List.replicate 14 0))), (va, (IA Z .int (a :: b :: List.replicate 14 0))), (le, (LA Z ((0 : Int64) :: (0 : Int64) :: List.replicate 14 0))), (ss, (IA Z .byte (3 :: 3 :: List.replicate 14 0))), (il, (ShAL Z (.int (0 : Int32)) dv (.int (0 : Int32)))), (u1, (IA Z .int [b])), (u0, (IA Z .int [a]))] 138 #[.val (.int a), .val (.int b), .val (.int flags), .val (.ref t), .val (.ref u0), .val (.ref u1), .val (.int (1 : Int32)), .val (.int (2 : Int32)), .val (.int (1 : Int32)), .val (.int (1 : Int32)), .val (.int (0 : Int32)), .unset, .unset] []
          refine W.aloadN at_138 (pc' := 139) rfl rfl rfl ?_
          refine W.callV 0 rfl (mBC43 l Z n0 a0 hw [(u1, (IA Z .int [b])), (u0, (IA Z .int [a]))] dv hdr t sl ix il rv va le ss a b _) at_139 (wd hw 146 rfl) (wd hw 147 rfl) (wd hw 149 rfl) (wd hw 148 rfl) (wd hw 2 rfl) (wd hw 150 rfl) rfl (by decide) pd0 rfl rfl (Nat.le_of_ble_eq_true rfl) (Nat.le_of_ble_eq_true rfl) (Nat.le_of_ble_eq_true rfl) (Nat.le_of_ble_eq_true rfl) rfl (pc' := 142) rfl ?_
          intro v9 s9 q9
          rw [q9.1, q9.2]
          clear q9 v9 s9
          show W _ _ _ _ _ _ 12 134 [(t, (ShTS Z (.ref sl) (.ref ix) (.ref il) (.ref rv) (.int (1 : Int32)) (.ref va) (.ref le) (.ref ss) (.int (0 : Int32)) (.int (2 : Int32)) .null (.int (0 : Int32)) (.int (2 : Int32)) (.int (0 : Int32)))), (sl, (IA Z .int x1)), (rv, (IA Z .int (0 :: 1 :: List.replicate 14 0))), (va, (IA Z .int (a :: b :: List.replicate 14 0))), (le, (LA Z ((0 : Int64) :: (0 : Int64) :: List.replicate 14 0))), (ss, (IA Z .byte (4 :: 4 :: List.replicate 14 0))), (il, (ShAL Z (.int (0 : Int32)) dv (.int (0 : Int32)))), (u1, (IA Z .int [b])), (u0, (IA Z .int [a]))] 142 #[.val (.int a), .val (.int b), .val (.int flags), .val (.ref t), .val (.ref u0), .val (.ref u1), .val (.int (1 : Int32)), .val (.int (2 : Int32)), .val (.int (1 : Int32)), .val (.int (1 : Int32)), .val (.int (0 : Int32)), .unset, .unset] []
          refine W.iload at_142 (pc' := 144) rfl rfl ?_
          refine W.iload at_144 (pc' := 146) rfl rfl ?_
          refine W.ifN at_146 (by decide) (pc' := 149) rfl ?_
          refine W.iconst (1 : Int32) at_149 (pc' := 150) rfl rfl ?_
          refine W.goto at_150 (pc' := 154) (by decide) rfl ?_
          refine W.isub at_154 (pc' := 155) rfl ?_
          refine W.topI (1 : Int32) (by decide) ?_
          refine W.iload at_155 (pc' := 157) rfl rfl ?_
          refine W.ifN at_157 (by decide) (pc' := 160) rfl ?_
          refine W.iconst (1 : Int32) at_160 (pc' := 161) rfl rfl ?_
          refine W.goto at_161 (pc' := 165) (by decide) rfl ?_
          refine W.isub at_165 (pc' := 166) rfl ?_
          refine W.topI (0 : Int32) (by decide) ?_
          refine W.istore #[.val (.int a), .val (.int b), .val (.int flags), .val (.ref t), .val (.ref u0), .val (.ref u1), .val (.int (1 : Int32)), .val (.int (2 : Int32)), .val (.int (1 : Int32)), .val (.int (1 : Int32)), .val (.int (0 : Int32)), .val (.int (0 : Int32)), .unset] at_166 (pc' := 168) rfl rfl ?_
          refine W.aloadN at_168 (pc' := 169) rfl rfl rfl ?_
          refine W.iconst (0 : Int32) at_169 (pc' := 170) rfl rfl ?_
          refine W.callV 0 rfl (mG44 l Z n0 a0 hw [(u1, (IA Z .int [b])), (u0, (IA Z .int [a]))] dv hdr t sl ix il rv va le ss a b _) at_170 (wd hw 155 rfl) (wd hw 156 rfl) (wd hw 158 rfl) (wd hw 157 rfl) (wd hw 2 rfl) (wd hw 159 rfl) rfl (by decide) pd11 rfl rfl (Nat.le_of_ble_eq_true rfl) (Nat.le_of_ble_eq_true rfl) (Nat.le_of_ble_eq_true rfl) (Nat.le_of_ble_eq_true rfl) rfl (pc' := 173) rfl ?_
          intro v9 s9 q9
          rw [q9.1, q9.2]
          clear q9 v9 s9
          show W _ _ _ _ _ _ 12 134 [(t, (ShTS Z (.ref sl) (.ref ix) (.ref il) (.ref rv) (.int (1 : Int32)) (.ref va) (.ref le) (.ref ss) (.int (0 : Int32)) (.int (2 : Int32)) .null (.int (0 : Int32)) (.int (2 : Int32)) (.int (0 : Int32)))), (sl, (IA Z .int x1)), (rv, (IA Z .int (0 :: 1 :: List.replicate 14 0))), (va, (IA Z .int (a :: b :: List.replicate 14 0))), (le, (LA Z ((0 : Int64) :: (0 : Int64) :: List.replicate 14 0))), (ss, (IA Z .byte (4 :: 4 :: List.replicate 14 0))), (il, (ShAL Z (.int (0 : Int32)) dv (.int (0 : Int32)))), (u1, (IA Z .int [b])), (u0, (IA Z .int [a]))] 173 #[.val (.int a), .val (.int b), .val (.int flags), .val (.ref t), .val (.ref u0), .val (.ref u1), .val (.int (1 : Int32)), .val (.int (2 : Int32)), .val (.int (1 : Int32)), .val (.int (1 : Int32)), .val (.int (0 : Int32)), .val (.int (0 : Int32)), .unset] [(.int (4 : Int32))]
          refine W.iload at_173 (pc' := 175) rfl rfl ?_
          refine W.ifN at_175 (by decide) (pc' := 178) rfl ?_
          refine W.iconst (4 : Int32) at_178 (pc' := 179) rfl rfl ?_
          refine W.goto at_179 (pc' := 183) (by decide) rfl ?_
          refine W.icmpN at_183 (by decide) (pc' := 186) rfl ?_
          refine W.iconst (1 : Int32) at_186 (pc' := 187) rfl rfl ?_
          refine W.goto at_187 (pc' := 191) (by decide) rfl ?_
          refine W.istore #[.val (.int a), .val (.int b), .val (.int flags), .val (.ref t), .val (.ref u0), .val (.ref u1), .val (.int (1 : Int32)), .val (.int (2 : Int32)), .val (.int (1 : Int32)), .val (.int (1 : Int32)), .val (.int (0 : Int32)), .val (.int (0 : Int32)), .val (.int (1 : Int32))] at_191 (pc' := 193) rfl rfl ?_
          refine W.iload at_193 (pc' := 195) rfl rfl ?_
          refine W.ifN at_195 (by decide) (pc' := 198) rfl ?_
          refine W.iload at_198 (pc' := 200) rfl rfl ?_
          refine W.ifN at_200 (by decide) (pc' := 203) rfl ?_
          refine W.aloadN at_203 (pc' := 204) rfl rfl rfl ?_
          refine W.iconst (1 : Int32) at_204 (pc' := 205) rfl rfl ?_
          refine W.callV 0 rfl (mG45 l Z n0 a0 hw [(u1, (IA Z .int [b])), (u0, (IA Z .int [a]))] dv hdr t sl ix il rv va le ss a b _) at_205 (wd hw 155 rfl) (wd hw 156 rfl) (wd hw 158 rfl) (wd hw 157 rfl) (wd hw 2 rfl) (wd hw 159 rfl) rfl (by decide) pd11 rfl rfl (Nat.le_of_ble_eq_true rfl) (Nat.le_of_ble_eq_true rfl) (Nat.le_of_ble_eq_true rfl) (Nat.le_of_ble_eq_true rfl) rfl (pc' := 208) rfl ?_
          intro v9 s9 q9
          rw [q9.1, q9.2]
          clear q9 v9 s9
          show W _ _ _ _ _ _ 12 134 [(t, (ShTS Z (.ref sl) (.ref ix) (.ref il) (.ref rv) (.int (1 : Int32)) (.ref va) (.ref le) (.ref ss) (.int (0 : Int32)) (.int (2 : Int32)) .null (.int (0 : Int32)) (.int (2 : Int32)) (.int (0 : Int32)))), (sl, (IA Z .int x1)), (rv, (IA Z .int (0 :: 1 :: List.replicate 14 0))), (va, (IA Z .int (a :: b :: List.replicate 14 0))), (le, (LA Z ((0 : Int64) :: (0 : Int64) :: List.replicate 14 0))), (ss, (IA Z .byte (4 :: 4 :: List.replicate 14 0))), (il, (ShAL Z (.int (0 : Int32)) dv (.int (0 : Int32)))), (u1, (IA Z .int [b])), (u0, (IA Z .int [a]))] 208 #[.val (.int a), .val (.int b), .val (.int flags), .val (.ref t), .val (.ref u0), .val (.ref u1), .val (.int (1 : Int32)), .val (.int (2 : Int32)), .val (.int (1 : Int32)), .val (.int (1 : Int32)), .val (.int (0 : Int32)), .val (.int (0 : Int32)), .val (.int (1 : Int32))] [(.int (4 : Int32))]
          refine W.iload at_208 (pc' := 210) rfl rfl ?_
          refine W.ifN at_210 (by decide) (pc' := 213) rfl ?_
          refine W.iconst (4 : Int32) at_213 (pc' := 214) rfl rfl ?_
          refine W.goto at_214 (pc' := 218) (by decide) rfl ?_
          refine W.icmpN at_218 (by decide) (pc' := 221) rfl ?_
          refine W.iconst (1 : Int32) at_221 (pc' := 222) rfl rfl ?_
          refine W.goto at_222 (pc' := 226) (by decide) rfl ?_
          refine W.istore #[.val (.int a), .val (.int b), .val (.int flags), .val (.ref t), .val (.ref u0), .val (.ref u1), .val (.int (1 : Int32)), .val (.int (2 : Int32)), .val (.int (1 : Int32)), .val (.int (1 : Int32)), .val (.int (0 : Int32)), .val (.int (0 : Int32)), .val (.int (1 : Int32))] at_226 (pc' := 228) rfl rfl ?_
          refine W.iload at_228 (pc' := 230) rfl rfl ?_
          refine W.ifN at_230 (by decide) (pc' := 233) rfl ?_
          refine W.aloadN at_233 (pc' := 234) rfl rfl rfl ?_
          refine W.callV 0 rfl (mG46 l Z n0 a0 hw [(u1, (IA Z .int [b])), (u0, (IA Z .int [a]))] dv hdr t sl ix il rv va le ss a b _) at_234 (wd hw 160 rfl) (wd hw 161 rfl) (wd hw 163 rfl) (wd hw 162 rfl) (wd hw 2 rfl) (wd hw 164 rfl) rfl (by decide) pd12 rfl rfl (Nat.le_of_ble_eq_true rfl) (Nat.le_of_ble_eq_true rfl) (Nat.le_of_ble_eq_true rfl) (Nat.le_of_ble_eq_true rfl) rfl (pc' := 237) rfl ?_
          intro v9 s9 q9
          rw [q9.1, q9.2]
          clear q9 v9 s9
          show W _ _ _ _ _ _ 12 134 [(t, (ShTS Z (.ref sl) (.ref ix) (.ref il) (.ref rv) (.int (1 : Int32)) (.ref va) (.ref le) (.ref ss) (.int (0 : Int32)) (.int (2 : Int32)) .null (.int (0 : Int32)) (.int (2 : Int32)) (.int (0 : Int32)))), (sl, (IA Z .int x1)), (rv, (IA Z .int (0 :: 1 :: List.replicate 14 0))), (va, (IA Z .int (a :: b :: List.replicate 14 0))), (le, (LA Z ((0 : Int64) :: (0 : Int64) :: List.replicate 14 0))), (ss, (IA Z .byte (4 :: 4 :: List.replicate 14 0))), (il, (ShAL Z (.int (0 : Int32)) dv (.int (0 : Int32)))), (u1, (IA Z .int [b])), (u0, (IA Z .int [a]))] 237 #[.val (.int a), .val (.int b), .val (.int flags), .val (.ref t), .val (.ref u0), .val (.ref u1), .val (.int (1 : Int32)), .val (.int (2 : Int32)), .val (.int (1 : Int32)), .val (.int (1 : Int32)), .val (.int (0 : Int32)), .val (.int (0 : Int32)), .val (.int (1 : Int32))] [(.int (2 : Int32))]
          refine W.iload at_237 (pc' := 239) rfl rfl ?_
          refine W.icmpN at_239 (by decide) (pc' := 242) rfl ?_
          refine W.iconst (1 : Int32) at_242 (pc' := 243) rfl rfl ?_
          refine W.goto at_243 (pc' := 247) (by decide) rfl ?_
          refine W.istore #[.val (.int a), .val (.int b), .val (.int flags), .val (.ref t), .val (.ref u0), .val (.ref u1), .val (.int (1 : Int32)), .val (.int (2 : Int32)), .val (.int (1 : Int32)), .val (.int (1 : Int32)), .val (.int (0 : Int32)), .val (.int (0 : Int32)), .val (.int (1 : Int32))] at_247 (pc' := 249) rfl rfl ?_
          refine W.iload at_249 (pc' := 251) rfl rfl ?_
          refine W.ifN at_251 (by decide) (pc' := 254) rfl ?_
          refine W.aloadN at_254 (pc' := 255) rfl rfl rfl ?_
          refine W.callV 0 rfl (mG47 l Z n0 a0 hw [(u1, (IA Z .int [b])), (u0, (IA Z .int [a]))] dv hdr t sl ix il rv va le ss a b _) at_255 (wd hw 165 rfl) (wd hw 166 rfl) (wd hw 168 rfl) (wd hw 167 rfl) (wd hw 2 rfl) (wd hw 169 rfl) rfl (by decide) pd12 rfl rfl (Nat.le_of_ble_eq_true rfl) (Nat.le_of_ble_eq_true rfl) (Nat.le_of_ble_eq_true rfl) (Nat.le_of_ble_eq_true rfl) rfl (pc' := 258) rfl ?_
          intro v9 s9 q9
          rw [q9.1, q9.2]
          clear q9 v9 s9
          show W _ _ _ _ _ _ 12 134 [(t, (ShTS Z (.ref sl) (.ref ix) (.ref il) (.ref rv) (.int (1 : Int32)) (.ref va) (.ref le) (.ref ss) (.int (0 : Int32)) (.int (2 : Int32)) .null (.int (0 : Int32)) (.int (2 : Int32)) (.int (0 : Int32)))), (sl, (IA Z .int x1)), (rv, (IA Z .int (0 :: 1 :: List.replicate 14 0))), (va, (IA Z .int (a :: b :: List.replicate 14 0))), (le, (LA Z ((0 : Int64) :: (0 : Int64) :: List.replicate 14 0))), (ss, (IA Z .byte (4 :: 4 :: List.replicate 14 0))), (il, (ShAL Z (.int (0 : Int32)) dv (.int (0 : Int32)))), (u1, (IA Z .int [b])), (u0, (IA Z .int [a]))] 258 #[.val (.int a), .val (.int b), .val (.int flags), .val (.ref t), .val (.ref u0), .val (.ref u1), .val (.int (1 : Int32)), .val (.int (2 : Int32)), .val (.int (1 : Int32)), .val (.int (1 : Int32)), .val (.int (0 : Int32)), .val (.int (0 : Int32)), .val (.int (1 : Int32))] [(.int (0 : Int32))]
          refine W.ifN at_258 (by decide) (pc' := 261) rfl ?_
          refine W.iconst (1 : Int32) at_261 (pc' := 262) rfl rfl ?_
          refine W.goto at_262 (pc' := 266) (by decide) rfl ?_
          refine W.istore #[.val (.int a), .val (.int b), .val (.int flags), .val (.ref t), .val (.ref u0), .val (.ref u1), .val (.int (1 : Int32)), .val (.int (2 : Int32)), .val (.int (1 : Int32)), .val (.int (1 : Int32)), .val (.int (0 : Int32)), .val (.int (0 : Int32)), .val (.int (1 : Int32))] at_266 (pc' := 268) rfl rfl ?_
          refine W.iload at_268 (pc' := 270) rfl rfl ?_
          refine W.ifN at_270 (by decide) (pc' := 273) rfl ?_
          refine W.aloadN at_273 (pc' := 274) rfl rfl rfl ?_
          refine W.callV 0 rfl (mG48 l Z n0 a0 hw [(u1, (IA Z .int [b])), (u0, (IA Z .int [a]))] dv hdr t sl ix il rv va le ss a b _) at_274 (wd hw 170 rfl) (wd hw 171 rfl) (wd hw 173 rfl) (wd hw 172 rfl) (wd hw 2 rfl) (wd hw 174 rfl) rfl (by decide) pd12 rfl rfl (Nat.le_of_ble_eq_true rfl) (Nat.le_of_ble_eq_true rfl) (Nat.le_of_ble_eq_true rfl) (Nat.le_of_ble_eq_true rfl) rfl (pc' := 277) rfl ?_
          intro v9 s9 q9
          rw [q9.1, q9.2]
          clear q9 v9 s9
          show W _ _ _ _ _ _ 12 134 [(t, (ShTS Z (.ref sl) (.ref ix) (.ref il) (.ref rv) (.int (1 : Int32)) (.ref va) (.ref le) (.ref ss) (.int (0 : Int32)) (.int (2 : Int32)) .null (.int (0 : Int32)) (.int (2 : Int32)) (.int (0 : Int32)))), (sl, (IA Z .int x1)), (rv, (IA Z .int (0 :: 1 :: List.replicate 14 0))), (va, (IA Z .int (a :: b :: List.replicate 14 0))), (le, (LA Z ((0 : Int64) :: (0 : Int64) :: List.replicate 14 0))), (ss, (IA Z .byte (4 :: 4 :: List.replicate 14 0))), (il, (ShAL Z (.int (0 : Int32)) dv (.int (0 : Int32)))), (u1, (IA Z .int [b])), (u0, (IA Z .int [a]))] 277 #[.val (.int a), .val (.int b), .val (.int flags), .val (.ref t), .val (.ref u0), .val (.ref u1), .val (.int (1 : Int32)), .val (.int (2 : Int32)), .val (.int (1 : Int32)), .val (.int (1 : Int32)), .val (.int (0 : Int32)), .val (.int (0 : Int32)), .val (.int (1 : Int32))] [(.int (0 : Int32))]
          refine W.iload at_277 (pc' := 279) rfl rfl ?_
          refine W.icmpN at_279 (by decide) (pc' := 282) rfl ?_
          refine W.iconst (1 : Int32) at_282 (pc' := 283) rfl rfl ?_
          refine W.goto at_283 (pc' := 287) (by decide) rfl ?_
          refine W.istore #[.val (.int a), .val (.int b), .val (.int flags), .val (.ref t), .val (.ref u0), .val (.ref u1), .val (.int (1 : Int32)), .val (.int (2 : Int32)), .val (.int (1 : Int32)), .val (.int (1 : Int32)), .val (.int (0 : Int32)), .val (.int (0 : Int32)), .val (.int (1 : Int32))] at_287 (pc' := 289) rfl rfl ?_
          refine W.iload at_289 (pc' := 291) rfl rfl ?_
          exact W.retN (t := .boolean) 1 at_291 rfl (by simp) rfl (by decide) (by decide) rfl
        · refine W.ifN at_99 (XT.i0_eq_f f3) (pc' := 102) rfl ?_
          refine W.iconst (1 : Int32) at_102 (pc' := 103) rfl rfl ?_
          refine W.goto at_103 (pc' := 107) (by decide) rfl ?_
          refine W.istore #[.val (.int a), .val (.int b), .val (.int flags), .val (.ref t), .val (.ref u0), .val (.ref u1), .val (.int (1 : Int32)), .val (.int (2 : Int32)), .val (.int (1 : Int32)), .val (.int (1 : Int32)), .val (.int (1 : Int32)), .unset, .unset] at_107 (pc' := 109) rfl rfl ?_
          refine W.iload at_109 (pc' := 111) rfl rfl ?_
          refine W.ifN at_111 (by decide) (pc' := 114) rfl ?_
          refine W.aloadN at_114 (pc' := 115) rfl rfl rfl ?_
          refine W.iconst (0 : Int32) at_115 (pc' := 116) rfl rfl ?_
          refine W.callV 0 rfl (mRem33 l Z n0 a0 hw [(u1, (IA Z .int [b])), (u0, (IA Z .int [a]))] dv hdr t sl ix il rv va le ss a b) at_116 (wd hw 139 rfl) (wd hw 140 rfl) (wd hw 142 rfl) (wd hw 141 rfl) (wd hw 2 rfl) (wd hw 143 rfl) rfl (by decide) pd9 rfl rfl (Nat.le_of_ble_eq_true rfl) (Nat.le_of_ble_eq_true rfl) (Nat.le_of_ble_eq_true rfl) (Nat.le_of_ble_eq_true rfl) rfl (pc' := 119) rfl ?_
          rintro _ _ ⟨rfl, x0, hl1, hk1, rfl⟩
          show W _ _ _ _ _ _ 12 134 [(t, (ShTS Z (.ref sl) (.ref ix) (.ref il) (.ref rv) (.int (1 : Int32)) (.ref va) (.ref le) (.ref ss) (.int (1 : Int32)) (.int (2 : Int32)) .null (.int (1 : Int32)) (.int (0 : Int32)) (.int (0 : Int32)))), (sl, (IA Z .int x0)), (rv, (IA Z .int (List.replicate 16 0))), (va, (IA Z .int (a :: b :: List.replicate 14 0))), (le, (LA Z ((0 : Int64) :: (0 : Int64) :: List.replicate 14 0))), (ss, (IA Z .byte (3 :: List.replicate 15 0))), (il, (ShAL Z (.int (0 : Int32)) dv (.int (0 : Int32)))), (u1, (IA Z .int [b])), (u0, (IA Z .int [a]))] 119 #[.val (.int a), .val (.int b), .val (.int flags), .val (.ref t), .val (.ref u0), .val (.ref u1), .val (.int (1 : Int32)), .val (.int (2 : Int32)), .val (.int (1 : Int32)), .val (.int (1 : Int32)), .val (.int (1 : Int32)), .unset, .unset] []
          refine W.iload at_119 (pc' := 121) rfl rfl ?_
          refine W.ifN at_121 (by decide) (pc' := 124) rfl ?_
          refine W.aloadN at_124 (pc' := 125) rfl rfl rfl ?_
          refine W.callV 0 rfl (mBC34 l Z n0 a0 hw [(u1, (IA Z .int [b])), (u0, (IA Z .int [a]))] dv hdr t sl ix il rv va le ss a b _) at_125 (wd hw 146 rfl) (wd hw 147 rfl) (wd hw 149 rfl) (wd hw 148 rfl) (wd hw 2 rfl) (wd hw 150 rfl) rfl (by decide) pd0 rfl rfl (Nat.le_of_ble_eq_true rfl) (Nat.le_of_ble_eq_true rfl) (Nat.le_of_ble_eq_true rfl) (Nat.le_of_ble_eq_true rfl) rfl (pc' := 128) rfl ?_
          intro v9 s9 q9
          rw [q9.1, q9.2]
          clear q9 v9 s9
          show W _ _ _ _ _ _ 12 134 [(t, (ShTS Z (.ref sl) (.ref ix) (.ref il) (.ref rv) (.int (1 : Int32)) (.ref va) (.ref le) (.ref ss) (.int (1 : Int32)) (.int (2 : Int32)) .null (.int (0 : Int32)) (.int (2 : Int32)) (.int (1 : Int32)))), (sl, (IA Z .int x0)), (rv, (IA Z .int (List.replicate 16 0))), (va, (IA Z .int (a :: b :: List.replicate 14 0))), (le, (LA Z ((0 : Int64) :: (0 : Int64) :: List.replicate 14 0))), (ss, (IA Z .byte (4 :: List.replicate 15 0))), (il, (ShAL Z (.int (0 : Int32)) dv (.int (0 : Int32)))), (u1, (IA Z .int [b])), (u0, (IA Z .int [a]))] 128 #[.val (.int a), .val (.int b), .val (.int flags), .val (.ref t), .val (.ref u0), .val (.ref u1), .val (.int (1 : Int32)), .val (.int (2 : Int32)), .val (.int (1 : Int32)), .val (.int (1 : Int32)), .val (.int (1 : Int32)), .unset, .unset] []
          refine W.iload at_128 (pc' := 130) rfl rfl ?_
          refine W.ifN at_130 (by decide) (pc' := 133) rfl ?_
          refine W.aloadN at_133 (pc' := 134) rfl rfl rfl ?_
          refine W.iconst (1 : Int32) at_134 (pc' := 135) rfl rfl ?_
          refine W.callV 0 rfl (mRem50 l Z n0 a0 hw [(u1, (IA Z .int [b])), (u0, (IA Z .int [a]))] dv hdr t sl ix il rv va le ss a b _ hl1 hk1.1 hk1.2) at_135 (wd hw 139 rfl) (wd hw 140 rfl) (wd hw 142 rfl) (wd hw 141 rfl) (wd hw 2 rfl) (wd hw 143 rfl) rfl (by decide) pd9 rfl rfl (Nat.le_of_ble_eq_true rfl) (Nat.le_of_ble_eq_true rfl) (Nat.le_of_ble_eq_true rfl) (Nat.le_of_ble_eq_true rfl) rfl (pc' := 138) rfl ?_
          rintro _ _ ⟨rfl, x1, hl1, hk1, rfl⟩
          show W _ _ _ _ _ _ 12 134 [(t, (ShTS Z (.ref sl) (.ref ix) (.ref il) (.ref rv) (.int (1 : Int32)) (.ref va) (.ref le) (.ref ss) (.int (0 : Int32)) (.int (2 : Int32)) .null (.int (1 : Int32)) (.int (2 : Int32)) (.int (1 : Int32)))), (sl, (IA Z .int x1)), (rv, (IA Z .int (1 :: List.replicate 15 0))), (va, (IA Z .int (a :: b :: List.replicate 14 0))), (le, (LA Z ((0 : Int64) :: (0 : Int64) :: List.replicate 14 0))), (ss, (IA Z .byte (4 :: 3 :: List.replicate 14 0))), (il, (ShAL Z (.int (0 : Int32)) dv (.int (0 : Int32)))), (u1, (IA Z .int [b])), (u0, (IA Z .int [a]))] 138 #[.val (.int a), .val (.int b), .val (.int flags), .val (.ref t), .val (.ref u0), .val (.ref u1), .val (.int (1 : Int32)), .val (.int (2 : Int32)), .val (.int (1 : Int32)), .val (.int (1 : Int32)), .val (.int (1 : Int32)), .unset, .unset] []
          refine W.aloadN at_138 (pc' := 139) rfl rfl rfl ?_
          refine W.callV 0 rfl (mBC51 l Z n0 a0 hw [(u1, (IA Z .int [b])), (u0, (IA Z .int [a]))] dv hdr t sl ix il rv va le ss a b _) at_139 (wd hw 146 rfl) (wd hw 147 rfl) (wd hw 149 rfl) (wd hw 148 rfl) (wd hw 2 rfl) (wd hw 150 rfl) rfl (by decide) pd0 rfl rfl (Nat.le_of_ble_eq_true rfl) (Nat.le_of_ble_eq_true rfl) (Nat.le_of_ble_eq_true rfl) (Nat.le_of_ble_eq_true rfl) rfl (pc' := 142) rfl ?_
          intro v9 s9 q9
          rw [q9.1, q9.2]
          clear q9 v9 s9
          show W _ _ _ _ _ _ 12 134 [(t, (ShTS Z (.ref sl) (.ref ix) (.ref il) (.ref rv) (.int (1 : Int32)) (.ref va) (.ref le) (.ref ss) (.int (0 : Int32)) (.int (2 : Int32)) .null (.int (0 : Int32)) (.int (2 : Int32)) (.int (0 : Int32)))), (sl, (IA Z .int x1)), (rv, (IA Z .int (1 :: List.replicate 15 0))), (va, (IA Z .int (a :: b :: List.replicate 14 0))), (le, (LA Z ((0 : Int64) :: (0 : Int64) :: List.replicate 14 0))), (ss, (IA Z .byte (4 :: 4 :: List.replicate 14 0))), (il, (ShAL Z (.int (0 : Int32)) dv (.int (0 : Int32)))), (u1, (IA Z .int [b])), (u0, (IA Z .int [a]))] 142 #[.val (.int a), .val (.int b), .val (.int flags), .val (.ref t), .val (.ref u0), .val (.ref u1), .val (.int (1 : Int32)), .val (.int (2 : Int32)), .val (.int (1 : Int32)), .val (.int (1 : Int32)), .val (.int (1 : Int32)), .unset, .unset] []
          refine W.iload at_142 (pc' := 144) rfl rfl ?_
          refine W.iload at_144 (pc' := 146) rfl rfl ?_
          refine W.ifN at_146 (by decide) (pc' := 149) rfl ?_
          refine W.iconst (1 : Int32) at_149 (pc' := 150) rfl rfl ?_
          refine W.goto at_150 (pc' := 154) (by decide) rfl ?_
          refine W.isub at_154 (pc' := 155) rfl ?_
          refine W.topI (1 : Int32) (by decide) ?_
          refine W.iload at_155 (pc' := 157) rfl rfl ?_
          refine W.ifN at_157 (by decide) (pc' := 160) rfl ?_
          refine W.iconst (1 : Int32) at_160 (pc' := 161) rfl rfl ?_
          refine W.goto at_161 (pc' := 165) (by decide) rfl ?_
          refine W.isub at_165 (pc' := 166) rfl ?_
          refine W.topI (0 : Int32) (by decide) ?_
          refine W.istore #[.val (.int a), .val (.int b), .val (.int flags), .val (.ref t), .val (.ref u0), .val (.ref u1), .val (.int (1 : Int32)), .val (.int (2 : Int32)), .val (.int (1 : Int32)), .val (.int (1 : Int32)), .val (.int (1 : Int32)), .val (.int (0 : Int32)), .unset] at_166 (pc' := 168) rfl rfl ?_
          refine W.aloadN at_168 (pc' := 169) rfl rfl rfl ?_
          refine W.iconst (0 : Int32) at_169 (pc' := 170) rfl rfl ?_
          refine W.callV 0 rfl (mG52 l Z n0 a0 hw [(u1, (IA Z .int [b])), (u0, (IA Z .int [a]))] dv hdr t sl ix il rv va le ss a b _) at_170 (wd hw 155 rfl) (wd hw 156 rfl) (wd hw 158 rfl) (wd hw 157 rfl) (wd hw 2 rfl) (wd hw 159 rfl) rfl (by decide) pd11 rfl rfl (Nat.le_of_ble_eq_true rfl) (Nat.le_of_ble_eq_true rfl) (Nat.le_of_ble_eq_true rfl) (Nat.le_of_ble_eq_true rfl) rfl (pc' := 173) rfl ?_
          intro v9 s9 q9
          rw [q9.1, q9.2]
          clear q9 v9 s9
          show W _ _ _ _ _ _ 12 134 [(t, (ShTS Z (.ref sl) (.ref ix) (.ref il) (.ref rv) (.int (1 : Int32)) (.ref va) (.ref le) (.ref ss) (.int (0 : Int32)) (.int (2 : Int32)) .null (.int (0 : Int32)) (.int (2 : Int32)) (.int (0 : Int32)))), (sl, (IA Z .int x1)), (rv, (IA Z .int (1 :: List.replicate 15 0))), (va, (IA Z .int (a :: b :: List.replicate 14 0))), (le, (LA Z ((0 : Int64) :: (0 : Int64) :: List.replicate 14 0))), (ss, (IA Z .byte (4 :: 4 :: List.replicate 14 0))), (il, (ShAL Z (.int (0 : Int32)) dv (.int (0 : Int32)))), (u1, (IA Z .int [b])), (u0, (IA Z .int [a]))] 173 #[.val (.int a), .val (.int b), .val (.int flags), .val (.ref t), .val (.ref u0), .val (.ref u1), .val (.int (1 : Int32)), .val (.int (2 : Int32)), .val (.int (1 : Int32)), .val (.int (1 : Int32)), .val (.int (1 : Int32)), .val (.int (0 : Int32)), .unset] [(.int (4 : Int32))]
          refine W.iload at_173 (pc' := 175) rfl rfl ?_
          refine W.ifN at_175 (by decide) (pc' := 178) rfl ?_
          refine W.iconst (4 : Int32) at_178 (pc' := 179) rfl rfl ?_
          refine W.goto at_179 (pc' := 183) (by decide) rfl ?_
          refine W.icmpN at_183 (by decide) (pc' := 186) rfl ?_
          refine W.iconst (1 : Int32) at_186 (pc' := 187) rfl rfl ?_
          refine W.goto at_187 (pc' := 191) (by decide) rfl ?_
          refine W.istore #[.val (.int a), .val (.int b), .val (.int flags), .val (.ref t), .val (.ref u0), .val (.ref u1), .val (.int (1 : Int32)), .val (.int (2 : Int32)), .val (.int (1 : Int32)), .val (.int (1 : Int32)), .val (.int (1 : Int32)), .val (.int (0 : Int32)), .val (.int (1 : Int32))] at_191 (pc' := 193) rfl rfl ?_
          refine W.iload at_193 (pc' := 195) rfl rfl ?_
          refine W.ifN at_195 (by decide) (pc' := 198) rfl ?_
          refine W.iload at_198 (pc' := 200) rfl rfl ?_
          refine W.ifN at_200 (by decide) (pc' := 203) rfl ?_
          refine W.aloadN at_203 (pc' := 204) rfl rfl rfl ?_
          refine W.iconst (1 : Int32) at_204 (pc' := 205) rfl rfl ?_
          refine W.callV 0 rfl (mG53 l Z n0 a0 hw [(u1, (IA Z .int [b])), (u0, (IA Z .int [a]))] dv hdr t sl ix il rv va le ss a b _) at_205 (wd hw 155 rfl) (wd hw 156 rfl) (wd hw 158 rfl) (wd hw 157 rfl) (wd hw 2 rfl) (wd hw 159 rfl) rfl (by decide) pd11 rfl rfl (Nat.le_of_ble_eq_true rfl) (Nat.le_of_ble_eq_true rfl) (Nat.le_of_ble_eq_true rfl) (Nat.le_of_ble_eq_true rfl) rfl (pc' := 208) rfl ?_
          intro v9 s9 q9
          rw [q9.1, q9.2]
          clear q9 v9 s9
          show W _ _ _ _ _ _ 12 134 [(t, (ShTS Z (.ref sl) (.ref ix) (.ref il) (.ref rv) (.int (1 : Int32)) (.ref va) (.ref le) (.ref ss) (.int (0 : Int32)) (.int (2 : Int32)) .null (.int (0 : Int32)) (.int (2 : Int32)) (.int (0 : Int32)))), (sl, (IA Z .int x1)), (rv, (IA Z .int (1 :: List.replicate 15 0))), (va, (IA Z .int (a :: b :: List.replicate 14 0))), (le, (LA Z ((0 : Int64) :: (0 : Int64) :: List.replicate 14 0))), (ss, (IA Z .byte (4 :: 4 :: List.replicate 14 0))), (il, (ShAL Z (.int (0 : Int32)) dv (.int (0 : Int32)))), (u1, (IA Z .int [b])), (u0, (IA Z .int [a]))] 208 #[.val (.int a), .val (.int b), .val (.int flags), .val (.ref t), .val (.ref u0), .val (.ref u1), .val (.int (1 : Int32)), .val (.int (2 : Int32)), .val (.int (1 : Int32)), .val (.int (1 : Int32)), .val (.int (1 : Int32)), .val (.int (0 : Int32)), .val (.int (1 : Int32))] [(.int (4 : Int32))]
          refine W.iload at_208 (pc' := 210) rfl rfl ?_
          refine W.ifN at_210 (by decide) (pc' := 213) rfl ?_
          refine W.iconst (4 : Int32) at_213 (pc' := 214) rfl rfl ?_
          refine W.goto at_214 (pc' := 218) (by decide) rfl ?_
          refine W.icmpN at_218 (by decide) (pc' := 221) rfl ?_
          refine W.iconst (1 : Int32) at_221 (pc' := 222) rfl rfl ?_
          refine W.goto at_222 (pc' := 226) (by decide) rfl ?_
          refine W.istore #[.val (.int a), .val (.int b), .val (.int flags), .val (.ref t), .val (.ref u0), .val (.ref u1), .val (.int (1 : Int32)), .val (.int (2 : Int32)), .val (.int (1 : Int32)), .val (.int (1 : Int32)), .val (.int (1 : Int32)), .val (.int (0 : Int32)), .val (.int (1 : Int32))] at_226 (pc' := 228) rfl rfl ?_
          refine W.iload at_228 (pc' := 230) rfl rfl ?_
          refine W.ifN at_230 (by decide) (pc' := 233) rfl ?_
          refine W.aloadN at_233 (pc' := 234) rfl rfl rfl ?_
          refine W.callV 0 rfl (mG54 l Z n0 a0 hw [(u1, (IA Z .int [b])), (u0, (IA Z .int [a]))] dv hdr t sl ix il rv va le ss a b _) at_234 (wd hw 160 rfl) (wd hw 161 rfl) (wd hw 163 rfl) (wd hw 162 rfl) (wd hw 2 rfl) (wd hw 164 rfl) rfl (by decide) pd12 rfl rfl (Nat.le_of_ble_eq_true rfl) (Nat.le_of_ble_eq_true rfl) (Nat.le_of_ble_eq_true rfl) (Nat.le_of_ble_eq_true rfl) rfl (pc' := 237) rfl ?_
          intro v9 s9 q9
          rw [q9.1, q9.2]
          clear q9 v9 s9
          show W _ _ _ _ _ _ 12 134 [(t, (ShTS Z (.ref sl) (.ref ix) (.ref il) (.ref rv) (.int (1 : Int32)) (.ref va) (.ref le) (.ref ss) (.int (0 : Int32)) (.int (2 : Int32)) .null (.int (0 : Int32)) (.int (2 : Int32)) (.int (0 : Int32)))), (sl, (IA Z .int x1)), (rv, (IA Z .int (1 :: List.replicate 15 0))), (va, (IA Z .int (a :: b :: List.replicate 14 0))), (le, (LA Z ((0 : Int64) :: (0 : Int64) :: List.replicate 14 0))), (ss, (IA Z .byte (4 :: 4 :: List.replicate 14 0))), (il, (ShAL Z (.int (0 : Int32)) dv (.int (0 : Int32)))), (u1, (IA Z .int [b])), (u0, (IA Z .int [a]))] 237 #[.val (.int a), .val (.int b), .val (.int flags), .val (.ref t), .val (.ref u0), .val (.ref u1), .val (.int (1 : Int32)), .val (.int (2 : Int32)), .val (.int (1 : Int32)), .val (.int (1 : Int32)), .val (.int (1 : Int32)), .val (.int (0 : Int32)), .val (.int (1 : Int32))] [(.int (2 : Int32))]
          refine W.iload at_237 (pc' := 239) rfl rfl ?_
          refine W.icmpN at_239 (by decide) (pc' := 242) rfl ?_
          refine W.iconst (1 : Int32) at_242 (pc' := 243) rfl rfl ?_
          refine W.goto at_243 (pc' := 247) (by decide) rfl ?_
          refine W.istore #[.val (.int a), .val (.int b), .val (.int flags), .val (.ref t), .val (.ref u0), .val (.ref u1), .val (.int (1 : Int32)), .val (.int (2 : Int32)), .val (.int (1 : Int32)), .val (.int (1 : Int32)), .val (.int (1 : Int32)), .val (.int (0 : Int32)), .val (.int (1 : Int32))] at_247 (pc' := 249) rfl rfl ?_
          refine W.iload at_249 (pc' := 251) rfl rfl ?_
          refine W.ifN at_251 (by decide) (pc' := 254) rfl ?_
          refine W.aloadN at_254 (pc' := 255) rfl rfl rfl ?_
          refine W.callV 0 rfl (mG55 l Z n0 a0 hw [(u1, (IA Z .int [b])), (u0, (IA Z .int [a]))] dv hdr t sl ix il rv va le ss a b _) at_255 (wd hw 165 rfl) (wd hw 166 rfl) (wd hw 168 rfl) (wd hw 167 rfl) (wd hw 2 rfl) (wd hw 169 rfl) rfl (by decide) pd12 rfl rfl (Nat.le_of_ble_eq_true rfl) (Nat.le_of_ble_eq_true rfl) (Nat.le_of_ble_eq_true rfl) (Nat.le_of_ble_eq_true rfl) rfl (pc' := 258) rfl ?_
          intro v9 s9 q9
          rw [q9.1, q9.2]
          clear q9 v9 s9
          show W _ _ _ _ _ _ 12 134 [(t, (ShTS Z (.ref sl) (.ref ix) (.ref il) (.ref rv) (.int (1 : Int32)) (.ref va) (.ref le) (.ref ss) (.int (0 : Int32)) (.int (2 : Int32)) .null (.int (0 : Int32)) (.int (2 : Int32)) (.int (0 : Int32)))), (sl, (IA Z .int x1)), (rv, (IA Z .int (1 :: List.replicate 15 0))), (va, (IA Z .int (a :: b :: List.replicate 14 0))), (le, (LA Z ((0 : Int64) :: (0 : Int64) :: List.replicate 14 0))), (ss, (IA Z .byte (4 :: 4 :: List.replicate 14 0))), (il, (ShAL Z (.int (0 : Int32)) dv (.int (0 : Int32)))), (u1, (IA Z .int [b])), (u0, (IA Z .int [a]))] 258 #[.val (.int a), .val (.int b), .val (.int flags), .val (.ref t), .val (.ref u0), .val (.ref u1), .val (.int (1 : Int32)), .val (.int (2 : Int32)), .val (.int (1 : Int32)), .val (.int (1 : Int32)), .val (.int (1 : Int32)), .val (.int (0 : Int32)), .val (.int (1 : Int32))] [(.int (0 : Int32))]
          refine W.ifN at_258 (by decide) (pc' := 261) rfl ?_
          refine W.iconst (1 : Int32) at_261 (pc' := 262) rfl rfl ?_
          refine W.goto at_262 (pc' := 266) (by decide) rfl ?_
          refine W.istore #[.val (.int a), .val (.int b), .val (.int flags), .val (.ref t), .val (.ref u0), .val (.ref u1), .val (.int (1 : Int32)), .val (.int (2 : Int32)), .val (.int (1 : Int32)), .val (.int (1 : Int32)), .val (.int (1 : Int32)), .val (.int (0 : Int32)), .val (.int (1 : Int32))] at_266 (pc' := 268) rfl rfl ?_
          refine W.iload at_268 (pc' := 270) rfl rfl ?_
          refine W.ifN at_270 (by decide) (pc' := 273) rfl ?_
          refine W.aloadN at_273 (pc' := 274) rfl rfl rfl ?_
          refine W.callV 0 rfl (mG56 l Z n0 a0 hw [(u1, (IA Z .int [b])), (u0, (IA Z .int [a]))] dv hdr t sl ix il rv va le ss a b _) at_274 (wd hw 170 rfl) (wd hw 171 rfl) (wd hw 173 rfl) (wd hw 172 rfl) (wd hw 2 rfl) (wd hw 174 rfl) rfl (by decide) pd12 rfl rfl (Nat.le_of_ble_eq_true rfl) (Nat.le_of_ble_eq_true rfl) (Nat.le_of_ble_eq_true rfl) (Nat.le_of_ble_eq_true rfl) rfl (pc' := 277) rfl ?_
          intro v9 s9 q9
          rw [q9.1, q9.2]
          clear q9 v9 s9
          show W _ _ _ _ _ _ 12 134 [(t, (ShTS Z (.ref sl) (.ref ix) (.ref il) (.ref rv) (.int (1 : Int32)) (.ref va) (.ref le) (.ref ss) (.int (0 : Int32)) (.int (2 : Int32)) .null (.int (0 : Int32)) (.int (2 : Int32)) (.int (0 : Int32)))), (sl, (IA Z .int x1)), (rv, (IA Z .int (1 :: List.replicate 15 0))), (va, (IA Z .int (a :: b :: List.replicate 14 0))), (le, (LA Z ((0 : Int64) :: (0 : Int64) :: List.replicate 14 0))), (ss, (IA Z .byte (4 :: 4 :: List.replicate 14 0))), (il, (ShAL Z (.int (0 : Int32)) dv (.int (0 : Int32)))), (u1, (IA Z .int [b])), (u0, (IA Z .int [a]))] 277 #[.val (.int a), .val (.int b), .val (.int flags), .val (.ref t), .val (.ref u0), .val (.ref u1), .val (.int (1 : Int32)), .val (.int (2 : Int32)), .val (.int (1 : Int32)), .val (.int (1 : Int32)), .val (.int (1 : Int32)), .val (.int (0 : Int32)), .val (.int (1 : Int32))] [(.int (0 : Int32))]
          refine W.iload at_277 (pc' := 279) rfl rfl ?_
          refine W.icmpN at_279 (by decide) (pc' := 282) rfl ?_
          refine W.iconst (1 : Int32) at_282 (pc' := 283) rfl rfl ?_
          refine W.goto at_283 (pc' := 287) (by decide) rfl ?_
          refine W.istore #[.val (.int a), .val (.int b), .val (.int flags), .val (.ref t), .val (.ref u0), .val (.ref u1), .val (.int (1 : Int32)), .val (.int (2 : Int32)), .val (.int (1 : Int32)), .val (.int (1 : Int32)), .val (.int (1 : Int32)), .val (.int (0 : Int32)), .val (.int (1 : Int32))] at_287 (pc' := 289) rfl rfl ?_
          refine W.iload at_289 (pc' := 291) rfl rfl ?_
          exact W.retN (t := .boolean) 1 at_291 rfl (by simp) rfl (by decide) (by decide) rfl
set_option maxRecDepth 65536 in
set_option maxHeartbeats 40000000 in
theorem comes_1 {Post : Tables → Env → Array Value → State → Outcome → State → Prop} (hpost : ∀ tb e args s v u, (limb_1_1.after args s (.returned v) u = true ∧ limb_1_2.after args s (.returned v) u = true ∧ True) → FrameEnd s (.returned v) u (Jvm.fieldLocs frame_1_writes args s ++ Jvm.arrayLocs frame_1_arrays args s ++ Jvm.staticLocs frame_1_statics s) 32 384 → Post tb e args s (.returned v) u) :
    ArmFor flags0 classFile x code maxLocals ret World_1 tables_1 room_1 Calls_1 rest_1 Pre_1 Post := by
  intro l hfl _ _ p en ha hc hk s m args below hf hA hF happ hP
  obtain ⟨hcalls, hrest, hpre⟩ := hP
  obtain ⟨-, -, -, hnamed, -, -, -, hat⟩ := (Spec.applies_iff hf).mp happ
  obtain ⟨hg, hn⟩ := and_e (Cond.before_iff.mp (show (Jvm.Cond.and given_1 narrow_1).before args s = true from hpre))
  obtain ⟨g0, t0⟩ := and_e hg
  obtain ⟨g1, t1⟩ := and_e t0
  obtain ⟨g2, t2⟩ := and_e t1
  obtain ⟨w0, w1, w2, rfl⟩ : ∃ w0 w1 w2 : Value, args = #[w0, w1, w2] := by
    have hs : args.size = 3 := by simpa [Cond.value, given_1] using g0
    obtain ⟨L⟩ := args
    match L, hs with
    | [w0, w1, w2], _ => exact ⟨w0, w1, w2, rfl⟩
  have hw := fun d (hd : d ∈ tables_1) => atoms_spec (ws := Jvm.Cond.code x code maxLocals ret :: tables_1) hat d (List.mem_cons_of_mem _ hd)
  obtain ⟨a, e_a⟩ := is_v g1
  obtain rfl : w0 = (.int a) := Option.some.inj e_a
  obtain ⟨b, e_b⟩ := is_v g2
  obtain rfl : w1 = (.int b) := Option.some.inj e_b
  obtain ⟨flags, e_flags⟩ := is_v t2
  obtain rfl : w2 = (.int flags) := Option.some.inj e_flags
  obtain ⟨hsets, hown0⟩ := atoms_of _ (rest_1_c_eq ▸ (show rest_1_c.before _ s = true from hrest))
  obtain ⟨dx, edx⟩ := exa_v (Cond.before_iff.mp (hsets _ (List.mem_of_getElem? (i := 7) rfl)))
  have hdv : Sta s s.heap "java/util/ArrayList" "DEFAULTCAPACITY_EMPTY_ELEMENTDATA" "[Ljava/lang/Object;" (.ref dx) := Sta.start edx (Or.inr ⟨(wd hw 32 rfl), hsets _ (List.mem_of_getElem? (i := 2) rfl)⟩)
  have hsep : Sep s s.heap.size s.heap [] := ⟨Old.start s, fun _ q => absurd q (List.not_mem_nil), List.nodup_nil⟩
  obtain ⟨n, o, h1, h2, h3, _, L, rfl, ⟨⟨_, rfl, -⟩, N⟩, hq⟩ := m0 l s s.heap.size _ hw (.ref dx) rfl hdv a b flags tables_1 s.heap hsep p en ha hc hk s m _ below hf ((Spec.applies_iff_loose hf).mp happ).1 ⟨rfl, State.Warmed39.refl s, rfl⟩ trivial
  refine ⟨n, _, h1, h2, h3, hpost _ _ _ _ _ _ ⟨Cond.after_iff.mpr rfl, Cond.after_iff.mpr (eq_i res_at (Term.int_eval (1)) rfl), trivial⟩ ⟨hq.1, hq.2.1, (hq.2.2.sift fun y hy => Or.inr (N y hy)).mono (by decide) (by decide)⟩⟩
theorem main_1_1 : Claimed_1_1 := comes_1 fun _ _ _ _ _ _ h hF => ⟨h.1, hF⟩
theorem main_1_2 : Claimed_1_2 := comes_1 fun _ _ _ _ _ _ h hF => ⟨h.2.1, hF⟩
end Jvm.Pilot.@@N@@
namespace Jvm.Pilot.@@N@@
open Jvm Jvm.ClassFile Sem Op Lib Jvm.Free Jvm.Stand Jvm.Pilot.@@N@@.Jvm.D
/-! MADE BY PROGRAM (witnessworld.py) out of the Statement's table words and the real class files: 26 classes; the members and pool entries that the words name. The judged class is class 1, her method 1. -/
namespace start1
open Jvm.ClassFile
def u (s : String) : CpInfo := .utf8 (stringToUtf16 s)
/-- a pool by its gaps: so many unusable entries, then the entry; so many at the end -/
def gap : Nat → List CpInfo → List CpInfo
  | 0, r => r
  | n + 1, r => .unusable :: gap n r
def poolList (es : List (Nat × CpInfo)) (last : Nat) : List CpInfo := es.foldr (fun e r => gap e.1 (e.2 :: r)) (gap last [])
def pool (es : List (Nat × CpInfo)) (last : Nat) : Array CpInfo := ⟨poolList es last⟩
def fileOf (pool : Array CpInfo) (this : Nat) (attrs : Array Attribute := #[]) (ms : Array MethodInfo := #[]) (fl : Nat := 33) (sup : Nat := 0) (ifs : Array Nat := #[]) (fds : Array FieldInfo := #[]) : ClassFile where
  minorVersion := 0
  majorVersion := 65
  constantPool := pool
  accessFlags := fl
  thisClass := this
  superClass := sup
  interfaces := ifs
  fields := fds
  methods := ms
  attributes := attrs
def plain (name : String) (sup : Option ClassId) : Class where
  name := name
  kind := .ordinary
  loader := none
  accessFlags := 33
  super := sup
  interfaces := #[]
  cf := none
  fields := #[]
  methods := #[]
  instanceTypes := #[]
  staticTypes := #[]
  resolved := #[]
  callSites := []
  init := .initialized
  statics := none
  mirror := none

def pool0 : Array CpInfo := pool [(5, u "<init>"), (0, u "()V"), (1, .class_ 10), (1, u "java/lang/Object")] 113

def k0c0 : Code := { maxStack := 0, maxLocals := 1, code := object_method_1_code, exceptionTable := #[], attributes := #[] }
def k0m0 : Method := { name := "<init>", desc := "()V", sig := { parameters := [], returnType := none }, accessFlags := 1, code := some k0c0 }
/-- java/lang/Object -/
def k0 : Class := { plain "java/lang/Object" none with
  accessFlags := 33
  interfaces := #[]
  cf := some (fileOf pool0 8 #[] #[{ accessFlags := 1, nameIndex := 5, descriptorIndex := 6, attributes := #[] }] 33 0 #[] #[])
  fields := #[]
  methods := #[k0m0]
  instanceTypes := #[]
  staticTypes := #[]
  resolved := Array.replicate 124 none
  statics := none }

def pool1 : Array CpInfo := pool [(2, .class_ 4), (1, u "java/lang/Object"), (0, u "<init>"), (0, u "()V"), (0, .class_ 8), (0, u "com/example/mendb/mendb/TupleStore"), (0, .methodref 7 10), (0, .nameAndType 5 11), (0, u "(I)V"), (0, .methodref 7 13), (0, .nameAndType 14 15), (0, u "add"), (0, u "([I)Z"), (0, .methodref 7 17), (0, .nameAndType 18 11), (0, u "remove"), (0, .methodref 7 20), (0, .nameAndType 21 6), (0, u "beginCommit"), (0, .methodref 7 23), (0, .nameAndType 24 25), (0, u "state"), (0, u "(I)B"), (0, .methodref 7 27), (0, .nameAndType 28 29), (0, u "firstAdded"), (0, u "()I"), (0, .methodref 7 31), (0, .nameAndType 32 29), (0, u "removedCount"), (0, .methodref 7 34), (0, .nameAndType 35 29), (0, u "countAtStart"), (0, .class_ 37), (0, u "com/example/mendb/mendb/TupleStoreBeginCommitPinLaw"), (2, u "law"), (0, u "(III)Z")] 5

def k1m0 : Method := { name := "<init>", desc := "()V", sig := { parameters := [], returnType := none }, accessFlags := 1, code := none }
def k1c1 : Code := { maxStack := 4, maxLocals := 13, code := code, exceptionTable := #[], attributes := #[] }
def k1m1 : Method := { name := "law", desc := "(III)Z", sig := { parameters := [.int, .int, .int], returnType := some .boolean }, accessFlags := 9, code := some k1c1 }
/-- com/example/mendb/mendb/TupleStoreBeginCommitPinLaw -/
def k1 : Class := { plain "com/example/mendb/mendb/TupleStoreBeginCommitPinLaw" (some 0) with
  accessFlags := 49
  interfaces := #[]
  cf := some (fileOf pool1 36 #[] #[{ accessFlags := 1, nameIndex := 5, descriptorIndex := 6, attributes := #[] }, { accessFlags := 9, nameIndex := 40, descriptorIndex := 41, attributes := #[] }] 49 2 #[] #[])
  fields := #[]
  methods := #[k1m0, k1m1]
  instanceTypes := #[]
  staticTypes := #[]
  resolved := Array.replicate 47 none
  statics := none }

def pool2 : Array CpInfo := pool [(1, .methodref 2 3), (0, .class_ 4), (0, .nameAndType 5 6), (0, u "java/lang/Object"), (0, u "<init>"), (0, u "()V"), (0, .class_ 8), (0, u "com/example/mendb/mendb/TupleStore"), (0, .fieldref 7 10), (0, .nameAndType 11 12), (0, u "slots"), (0, u "[I"), (0, .class_ 14), (0, u "java/util/HashMap"), (0, .methodref 13 3), (0, .fieldref 7 17), (0, .nameAndType 18 19), (0, u "indexes"), (0, u "Ljava/util/Map;"), (0, .class_ 21), (0, u "java/util/ArrayList"), (0, .methodref 20 3), (0, .fieldref 7 24), (0, .nameAndType 25 26), (0, u "indexList"), (0, u "Ljava/util/List;"), (0, .fieldref 7 28), (0, .nameAndType 29 12), (0, u "removed"), (0, .fieldref 7 31), (0, .nameAndType 32 33), (0, u "arity"), (0, u "I"), (0, .fieldref 7 35), (0, .nameAndType 36 12), (0, u "values"), (0, .fieldref 7 38), (0, .nameAndType 39 40), (0, u "levels"), (0, u "[J"), (0, .fieldref 7 42), (0, .nameAndType 43 44), (0, u "states"), (0, u "[B"), (0, .fieldref 7 46), (0, .nameAndType 47 33), (0, u "end"), (0, .fieldref 7 49), (0, .nameAndType 50 33), (0, u "count"), (2, u "keepsPast"), (0, u "Z"), (0, .fieldref 7 56), (0, .nameAndType 57 58), (0, u "past"), (0, u "[[J"), (4, .fieldref 7 64), (0, .nameAndType 65 33), (0, u "firstAdded"), (0, .fieldref 7 67), (0, .nameAndType 68 33), (0, u "countAtStart"), (4, .methodref 74 75), (0, .class_ 76), (0, .nameAndType 77 78), (0, u "java/lang/System"), (0, u "arraycopy"), (0, u "(Ljava/lang/Object;ILjava/lang/Object;II)V"), (0, .methodref 7 80), (0, .nameAndType 81 82), (0, u "add"), (0, u "([IJ)Z"), (3, u "(I)V"), (0, .methodref 7 88), (0, .nameAndType 89 90), (0, u "hash"), (0, u "([II)I"), (0, .methodref 7 92), (0, .nameAndType 93 94), (0, u "equals"), (0, u "(I[II)Z"), (16, .interfaceMethodref 112 113), (0, .class_ 114), (0, .nameAndType 115 116), (0, u "java/util/List"), (0, u "iterator"), (0, u "()Ljava/util/Iterator;"), (0, .interfaceMethodref 118 119), (0, .class_ 120), (0, .nameAndType 121 122), (0, u "java/util/Iterator"), (0, u "hasNext"), (0, u "()Z"), (11, .fieldref 7 135), (0, .nameAndType 136 33), (0, u "removedCount"), (3, u "(I)I"), (9, u "stableEnd"), (2, u "deltaEnd"), (2, u "beginCommit"), (29, .methodref 7 187), (0, .nameAndType 188 189), (0, u "mix"), (0, u "(II)I"), (0, .methodref 7 191), (0, .nameAndType 192 140), (0, u "finish"), (0, .integer 2654435761), (0, .integer 2246822507), (0, .integer 3266489909), (0, u "LIVE"), (0, u "B"), (2, u "CONFIRMED"), (1, u "SUSPENDED"), (1, u "LOST"), (1, u "DEAD"), (1, u "INITIAL_CAPACITY"), (6, u "()I"), (12, u "state"), (0, u "(I)B"), (6, u "([I)Z"), (1, u "remove")] 12

def k2c0 : Code := { maxStack := 3, maxLocals := 2, code := prog_126_method_1_code, exceptionTable := #[], attributes := #[] }
def k2m0 : Method := { name := "<init>", desc := "(I)V", sig := { parameters := [.int], returnType := none }, accessFlags := 0, code := some k2c0 }
def k2c1 : Code := { maxStack := 2, maxLocals := 2, code := prog_126_method_14_code, exceptionTable := #[], attributes := #[] }
def k2m1 : Method := { name := "state", desc := "(I)B", sig := { parameters := [.int], returnType := some .byte }, accessFlags := 0, code := some k2c1 }
def k2c2 : Code := { maxStack := 1, maxLocals := 1, code := prog_126_method_18_code, exceptionTable := #[], attributes := #[] }
def k2m2 : Method := { name := "countAtStart", desc := "()I", sig := { parameters := [], returnType := some .int }, accessFlags := 0, code := some k2c2 }
def k2c3 : Code := { maxStack := 4, maxLocals := 2, code := prog_126_method_21_code, exceptionTable := #[], attributes := #[] }
def k2m3 : Method := { name := "add", desc := "([I)Z", sig := { parameters := [(.array .int)], returnType := some .boolean }, accessFlags := 0, code := some k2c3 }
def k2c4 : Code := { maxStack := 5, maxLocals := 9, code := prog_126_method_22_code, exceptionTable := #[], attributes := #[] }
def k2m4 : Method := { name := "add", desc := "([IJ)Z", sig := { parameters := [(.array .int), .long], returnType := some .boolean }, accessFlags := 0, code := some k2c4 }
def k2c5 : Code := { maxStack := 4, maxLocals := 7, code := prog_126_method_25_code, exceptionTable := #[], attributes := #[] }
def k2m5 : Method := { name := "remove", desc := "(I)V", sig := { parameters := [.int], returnType := none }, accessFlags := 0, code := some k2c5 }
def k2c6 : Code := { maxStack := 3, maxLocals := 2, code := prog_126_method_26_code, exceptionTable := #[], attributes := #[] }
def k2m6 : Method := { name := "beginCommit", desc := "()V", sig := { parameters := [], returnType := none }, accessFlags := 0, code := some k2c6 }
def k2c7 : Code := { maxStack := 1, maxLocals := 1, code := prog_126_method_27_code, exceptionTable := #[], attributes := #[] }
def k2m7 : Method := { name := "firstAdded", desc := "()I", sig := { parameters := [], returnType := some .int }, accessFlags := 0, code := some k2c7 }
def k2c8 : Code := { maxStack := 1, maxLocals := 1, code := prog_126_method_28_code, exceptionTable := #[], attributes := #[] }
def k2m8 : Method := { name := "removedCount", desc := "()I", sig := { parameters := [], returnType := some .int }, accessFlags := 0, code := some k2c8 }
def k2c9 : Code := { maxStack := 4, maxLocals := 6, code := prog_126_method_41_code, exceptionTable := #[], attributes := #[] }
def k2m9 : Method := { name := "equals", desc := "(I[II)Z", sig := { parameters := [.int, (.array .int), .int], returnType := some .boolean }, accessFlags := 2, code := some k2c9 }
def k2c10 : Code := { maxStack := 4, maxLocals := 5, code := prog_126_method_42_code, exceptionTable := #[], attributes := #[] }
def k2m10 : Method := { name := "hash", desc := "([II)I", sig := { parameters := [(.array .int), .int], returnType := some .int }, accessFlags := 2, code := some k2c10 }
def k2c11 : Code := { maxStack := 2, maxLocals := 2, code := prog_126_method_44_code, exceptionTable := #[], attributes := #[] }
def k2m11 : Method := { name := "mix", desc := "(II)I", sig := { parameters := [.int, .int], returnType := some .int }, accessFlags := 8, code := some k2c11 }
def k2c12 : Code := { maxStack := 3, maxLocals := 2, code := prog_126_method_45_code, exceptionTable := #[], attributes := #[] }
def k2m12 : Method := { name := "finish", desc := "(I)I", sig := { parameters := [.int], returnType := some .int }, accessFlags := 8, code := some k2c12 }
/-- com/example/mendb/mendb/TupleStore -/
def k2 : Class := { plain "com/example/mendb/mendb/TupleStore" (some 0) with
  accessFlags := 32
  interfaces := #[]
  cf := some (fileOf pool2 7 #[] #[{ accessFlags := 0, nameIndex := 5, descriptorIndex := 86, attributes := #[] }, { accessFlags := 0, nameIndex := 228, descriptorIndex := 229, attributes := #[] }, { accessFlags := 0, nameIndex := 68, descriptorIndex := 215, attributes := #[] }, { accessFlags := 0, nameIndex := 81, descriptorIndex := 236, attributes := #[] }, { accessFlags := 0, nameIndex := 81, descriptorIndex := 82, attributes := #[] }, { accessFlags := 0, nameIndex := 238, descriptorIndex := 86, attributes := #[] }, { accessFlags := 0, nameIndex := 156, descriptorIndex := 6, attributes := #[] }, { accessFlags := 0, nameIndex := 65, descriptorIndex := 215, attributes := #[] }, { accessFlags := 0, nameIndex := 136, descriptorIndex := 215, attributes := #[] }, { accessFlags := 2, nameIndex := 93, descriptorIndex := 94, attributes := #[] }, { accessFlags := 2, nameIndex := 89, descriptorIndex := 90, attributes := #[] }, { accessFlags := 8, nameIndex := 188, descriptorIndex := 189, attributes := #[] }, { accessFlags := 8, nameIndex := 192, descriptorIndex := 140, attributes := #[] }] 32 2 #[] #[{ accessFlags := 24, nameIndex := 196, descriptorIndex := 197, attributes := #[] }, { accessFlags := 24, nameIndex := 200, descriptorIndex := 197, attributes := #[] }, { accessFlags := 24, nameIndex := 202, descriptorIndex := 197, attributes := #[] }, { accessFlags := 24, nameIndex := 204, descriptorIndex := 197, attributes := #[] }, { accessFlags := 24, nameIndex := 206, descriptorIndex := 197, attributes := #[] }, { accessFlags := 26, nameIndex := 208, descriptorIndex := 33, attributes := #[] }, { accessFlags := 18, nameIndex := 32, descriptorIndex := 33, attributes := #[] }, { accessFlags := 2, nameIndex := 36, descriptorIndex := 12, attributes := #[] }, { accessFlags := 2, nameIndex := 39, descriptorIndex := 40, attributes := #[] }, { accessFlags := 2, nameIndex := 43, descriptorIndex := 44, attributes := #[] }, { accessFlags := 2, nameIndex := 57, descriptorIndex := 58, attributes := #[] }, { accessFlags := 2, nameIndex := 53, descriptorIndex := 54, attributes := #[] }, { accessFlags := 2, nameIndex := 47, descriptorIndex := 33, attributes := #[] }, { accessFlags := 2, nameIndex := 50, descriptorIndex := 33, attributes := #[] }, { accessFlags := 2, nameIndex := 68, descriptorIndex := 33, attributes := #[] }, { accessFlags := 2, nameIndex := 11, descriptorIndex := 12, attributes := #[] }, { accessFlags := 18, nameIndex := 18, descriptorIndex := 19, attributes := #[] }, { accessFlags := 18, nameIndex := 25, descriptorIndex := 26, attributes := #[] }, { accessFlags := 2, nameIndex := 150, descriptorIndex := 33, attributes := #[] }, { accessFlags := 2, nameIndex := 153, descriptorIndex := 33, attributes := #[] }, { accessFlags := 2, nameIndex := 65, descriptorIndex := 33, attributes := #[] }, { accessFlags := 2, nameIndex := 29, descriptorIndex := 12, attributes := #[] }, { accessFlags := 2, nameIndex := 136, descriptorIndex := 33, attributes := #[] }])
  fields := #[{ name := "LIVE", type := .byte, accessFlags := 24, slot := 0, constantValue := 0 }, { name := "CONFIRMED", type := .byte, accessFlags := 24, slot := 1, constantValue := 0 }, { name := "SUSPENDED", type := .byte, accessFlags := 24, slot := 2, constantValue := 0 }, { name := "LOST", type := .byte, accessFlags := 24, slot := 3, constantValue := 0 }, { name := "DEAD", type := .byte, accessFlags := 24, slot := 4, constantValue := 0 }, { name := "INITIAL_CAPACITY", type := .int, accessFlags := 26, slot := 5, constantValue := 0 }, { name := "arity", type := .int, accessFlags := 18, slot := 0, constantValue := 0 }, { name := "values", type := (.array .int), accessFlags := 2, slot := 1, constantValue := 0 }, { name := "levels", type := (.array .long), accessFlags := 2, slot := 2, constantValue := 0 }, { name := "states", type := (.array .byte), accessFlags := 2, slot := 3, constantValue := 0 }, { name := "past", type := (.array (.array .long)), accessFlags := 2, slot := 4, constantValue := 0 }, { name := "keepsPast", type := .boolean, accessFlags := 2, slot := 5, constantValue := 0 }, { name := "end", type := .int, accessFlags := 2, slot := 6, constantValue := 0 }, { name := "count", type := .int, accessFlags := 2, slot := 7, constantValue := 0 }, { name := "countAtStart", type := .int, accessFlags := 2, slot := 8, constantValue := 0 }, { name := "slots", type := (.array .int), accessFlags := 2, slot := 9, constantValue := 0 }, { name := "indexes", type := (.object "java/util/Map"), accessFlags := 18, slot := 10, constantValue := 0 }, { name := "indexList", type := (.object "java/util/List"), accessFlags := 18, slot := 11, constantValue := 0 }, { name := "stableEnd", type := .int, accessFlags := 2, slot := 12, constantValue := 0 }, { name := "deltaEnd", type := .int, accessFlags := 2, slot := 13, constantValue := 0 }, { name := "firstAdded", type := .int, accessFlags := 2, slot := 14, constantValue := 0 }, { name := "removed", type := (.array .int), accessFlags := 2, slot := 15, constantValue := 0 }, { name := "removedCount", type := .int, accessFlags := 2, slot := 16, constantValue := 0 }]
  methods := #[k2m0, k2m1, k2m2, k2m3, k2m4, k2m5, k2m6, k2m7, k2m8, k2m9, k2m10, k2m11, k2m12]
  instanceTypes := #[.int, (.array .int), (.array .long), (.array .byte), (.array (.array .long)), .boolean, .int, .int, .int, (.array .int), (.object "java/util/Map"), (.object "java/util/List"), .int, .int, .int, (.array .int), .int]
  staticTypes := #[.byte, .byte, .byte, .byte, .byte, .int]
  resolved := Array.replicate 251 none
  statics := none }

def pool3 : Array CpInfo := pool [(2, .class_ 4), (1, u "java/util/Map"), (31, .class_ 37), (0, u "java/util/Map$Entry"), (55, .class_ 94), (0, u "java/lang/Object")] 168

/-- java/util/Map -/
def k3 : Class := { plain "java/util/Map" (some 0) with
  accessFlags := 1537
  interfaces := #[]
  cf := some (fileOf pool3 2 #[.nestMembers #[36]] #[] 1537 93 #[] #[])
  fields := #[]
  methods := #[]
  instanceTypes := #[]
  staticTypes := #[]
  resolved := Array.replicate 263 none
  statics := none }

def pool4 : Array CpInfo := pool [(1, .methodref 2 3), (0, .class_ 4), (0, .nameAndType 5 6), (0, u "java/lang/Object"), (0, u "<init>"), (0, u "()V"), (1, .class_ 10), (1, u "java/util/AbstractMap"), (42, .class_ 54), (0, u "java/util/Map"), (9, u "keySet"), (0, u "Ljava/util/Set;"), (0, .class_ 67), (0, u "java/util/AbstractMap$1"), (5, u "values"), (0, u "Ljava/util/Collection;"), (0, .class_ 76), (0, u "java/util/AbstractMap$2"), (104, .class_ 182), (0, u "java/util/AbstractMap$ViewCollection"), (0, .class_ 184), (0, u "java/util/AbstractMap$SimpleImmutableEntry"), (0, .class_ 186), (0, u "java/util/AbstractMap$SimpleEntry"), (0, .class_ 188), (0, u "java/util/AbstractMap$2$1"), (0, .class_ 190), (0, u "java/util/AbstractMap$1$1")] 5

def k4c0 : Code := { maxStack := 1, maxLocals := 1, code := jdk_71_method_1_code, exceptionTable := #[], attributes := #[] }
def k4m0 : Method := { name := "<init>", desc := "()V", sig := { parameters := [], returnType := none }, accessFlags := 4, code := some k4c0 }
/-- java/util/AbstractMap -/
def k4 : Class := { plain "java/util/AbstractMap" (some 0) with
  accessFlags := 1057
  interfaces := #[3]
  cf := some (fileOf pool4 8 #[.nestMembers #[181, 183, 185, 75, 187, 66, 189]] #[{ accessFlags := 4, nameIndex := 5, descriptorIndex := 6, attributes := #[] }] 1057 2 #[53] #[{ accessFlags := 128, nameIndex := 64, descriptorIndex := 65, attributes := #[] }, { accessFlags := 128, nameIndex := 73, descriptorIndex := 74, attributes := #[] }])
  fields := #[{ name := "keySet", type := (.object "java/util/Set"), accessFlags := 128, slot := 0, constantValue := 0 }, { name := "values", type := (.object "java/util/Collection"), accessFlags := 128, slot := 1, constantValue := 0 }]
  methods := #[k4m0]
  instanceTypes := #[(.object "java/util/Set"), (.object "java/util/Collection")]
  staticTypes := #[]
  resolved := Array.replicate 196 none
  statics := none }

def pool5 : Array CpInfo := pool [(1, .class_ 2), (0, u "java/lang/Cloneable"), (0, .class_ 4), (0, u "java/lang/Object")] 2

/-- java/lang/Cloneable -/
def k5 : Class := { plain "java/lang/Cloneable" (some 0) with
  accessFlags := 1537
  interfaces := #[]
  cf := some (fileOf pool5 1 #[] #[] 1537 3 #[] #[])
  fields := #[]
  methods := #[]
  instanceTypes := #[]
  staticTypes := #[]
  resolved := Array.replicate 7 none
  statics := none }

def pool6 : Array CpInfo := pool [(1, .class_ 2), (0, u "java/io/Serializable"), (0, .class_ 4), (0, u "java/lang/Object")] 2

/-- java/io/Serializable -/
def k6 : Class := { plain "java/io/Serializable" (some 0) with
  accessFlags := 1537
  interfaces := #[]
  cf := some (fileOf pool6 1 #[] #[] 1537 3 #[] #[])
  fields := #[]
  methods := #[]
  instanceTypes := #[]
  staticTypes := #[]
  resolved := Array.replicate 7 none
  statics := none }

def pool7 : Array CpInfo := pool [(40, .class_ 41), (0, u "java/util/HashMap"), (1, .methodref 44 45), (0, .class_ 46), (0, .nameAndType 47 48), (0, u "java/util/AbstractMap"), (0, u "<init>"), (0, u "()V"), (32, .fieldref 40 82), (0, .nameAndType 83 84), (0, u "loadFactor"), (0, u "F"), (5, u "threshold"), (0, u "I"), (0, .float 1061158912), (8, .class_ 103), (1, u "java/util/Map"), (0, u "size"), (2, u "table"), (0, u "[Ljava/util/HashMap$Node;"), (14, u "entrySet"), (39, .class_ 165), (1, u "java/util/HashMap$Node"), (14, .class_ 181), (0, u "java/util/HashMap$TreeNode"), (22, u "modCount"), (37, u "Ljava/util/Set;"), (0, .class_ 244), (0, u "java/util/HashMap$KeySet"), (18, .class_ 264), (0, u "java/util/HashMap$Values"), (3, .class_ 269), (0, u "java/util/HashMap$EntrySet"), (76, .class_ 348), (1, u "java/util/HashMap$UnsafeHolder"), (43, .class_ 393), (0, u "java/lang/Cloneable"), (0, .class_ 395), (0, u "java/io/Serializable"), (0, u "serialVersionUID"), (0, u "J"), (3, u "DEFAULT_INITIAL_CAPACITY"), (1, u "MAXIMUM_CAPACITY"), (0, u "DEFAULT_LOAD_FACTOR"), (0, u "TREEIFY_THRESHOLD"), (1, u "UNTREEIFY_THRESHOLD"), (1, u "MIN_TREEIFY_CAPACITY"), (186, .class_ 597), (0, u "java/util/HashMap$EntrySpliterator"), (0, .class_ 599), (0, u "java/util/HashMap$ValueSpliterator"), (0, .class_ 601), (0, u "java/util/HashMap$KeySpliterator"), (0, .class_ 603), (0, u "java/util/HashMap$HashMapSpliterator"), (0, .class_ 605), (0, u "java/util/HashMap$EntryIterator"), (0, .class_ 607), (0, u "java/util/HashMap$ValueIterator"), (0, .class_ 609), (0, u "java/util/HashMap$KeyIterator"), (0, .class_ 611), (0, u "java/util/HashMap$HashIterator")] 17

def k7c0 : Code := { maxStack := 2, maxLocals := 1, code := jdk_69_method_7_code, exceptionTable := #[], attributes := #[] }
def k7m0 : Method := { name := "<init>", desc := "()V", sig := { parameters := [], returnType := none }, accessFlags := 1, code := some k7c0 }
/-- java/util/HashMap -/
def k7 : Class := { plain "java/util/HashMap" (some 4) with
  accessFlags := 33
  interfaces := #[3, 5, 6]
  cf := some (fileOf pool7 40 #[.nestMembers #[180, 596, 598, 600, 602, 604, 606, 608, 610, 346, 268, 263, 243, 163]] #[{ accessFlags := 1, nameIndex := 47, descriptorIndex := 48, attributes := #[] }] 33 44 #[101, 392, 394] #[{ accessFlags := 26, nameIndex := 396, descriptorIndex := 397, attributes := #[] }, { accessFlags := 24, nameIndex := 401, descriptorIndex := 91, attributes := #[] }, { accessFlags := 24, nameIndex := 403, descriptorIndex := 91, attributes := #[] }, { accessFlags := 24, nameIndex := 404, descriptorIndex := 84, attributes := #[] }, { accessFlags := 24, nameIndex := 405, descriptorIndex := 91, attributes := #[] }, { accessFlags := 24, nameIndex := 407, descriptorIndex := 91, attributes := #[] }, { accessFlags := 24, nameIndex := 409, descriptorIndex := 91, attributes := #[] }, { accessFlags := 128, nameIndex := 107, descriptorIndex := 108, attributes := #[] }, { accessFlags := 128, nameIndex := 123, descriptorIndex := 242, attributes := #[] }, { accessFlags := 128, nameIndex := 104, descriptorIndex := 91, attributes := #[] }, { accessFlags := 128, nameIndex := 204, descriptorIndex := 91, attributes := #[] }, { accessFlags := 0, nameIndex := 90, descriptorIndex := 91, attributes := #[] }, { accessFlags := 16, nameIndex := 83, descriptorIndex := 84, attributes := #[] }])
  fields := #[{ name := "serialVersionUID", type := .long, accessFlags := 26, slot := 0, constantValue := 0 }, { name := "DEFAULT_INITIAL_CAPACITY", type := .int, accessFlags := 24, slot := 1, constantValue := 0 }, { name := "MAXIMUM_CAPACITY", type := .int, accessFlags := 24, slot := 2, constantValue := 0 }, { name := "DEFAULT_LOAD_FACTOR", type := .float, accessFlags := 24, slot := 3, constantValue := 0 }, { name := "TREEIFY_THRESHOLD", type := .int, accessFlags := 24, slot := 4, constantValue := 0 }, { name := "UNTREEIFY_THRESHOLD", type := .int, accessFlags := 24, slot := 5, constantValue := 0 }, { name := "MIN_TREEIFY_CAPACITY", type := .int, accessFlags := 24, slot := 6, constantValue := 0 }, { name := "table", type := (.array (.object "java/util/HashMap$Node")), accessFlags := 128, slot := 2, constantValue := 0 }, { name := "entrySet", type := (.object "java/util/Set"), accessFlags := 128, slot := 3, constantValue := 0 }, { name := "size", type := .int, accessFlags := 128, slot := 4, constantValue := 0 }, { name := "modCount", type := .int, accessFlags := 128, slot := 5, constantValue := 0 }, { name := "threshold", type := .int, accessFlags := 0, slot := 6, constantValue := 0 }, { name := "loadFactor", type := .float, accessFlags := 16, slot := 7, constantValue := 0 }]
  methods := #[k7m0]
  instanceTypes := #[(.object "java/util/Set"), (.object "java/util/Collection"), (.array (.object "java/util/HashMap$Node")), (.object "java/util/Set"), .int, .int, .int, .float]
  staticTypes := #[.long, .int, .int, .float, .int, .int, .int]
  resolved := Array.replicate 629 none
  statics := none }

def pool8 : Array CpInfo := pool [(8, .class_ 10), (1, u "java/lang/Iterable"), (24, .class_ 36), (0, u "java/lang/Object")] 25

/-- java/lang/Iterable -/
def k8 : Class := { plain "java/lang/Iterable" (some 0) with
  accessFlags := 1537
  interfaces := #[]
  cf := some (fileOf pool8 8 #[] #[] 1537 35 #[] #[])
  fields := #[]
  methods := #[]
  instanceTypes := #[]
  staticTypes := #[]
  resolved := Array.replicate 62 none
  statics := none }

def pool9 : Array CpInfo := pool [(10, .class_ 12), (1, u "java/util/Collection"), (47, .class_ 61), (0, u "java/lang/Object"), (0, .class_ 63), (0, u "java/lang/Iterable")] 51

/-- java/util/Collection -/
def k9 : Class := { plain "java/util/Collection" (some 0) with
  accessFlags := 1537
  interfaces := #[8]
  cf := some (fileOf pool9 10 #[] #[] 1537 60 #[62] #[])
  fields := #[]
  methods := #[]
  instanceTypes := #[]
  staticTypes := #[]
  resolved := Array.replicate 115 none
  statics := none }

def pool10 : Array CpInfo := pool [(1, .methodref 2 3), (0, .class_ 4), (0, .nameAndType 5 6), (0, u "java/lang/Object"), (0, u "<init>"), (0, u "()V"), (1, .class_ 10), (1, u "java/util/AbstractCollection"), (66, .class_ 78), (0, u "java/util/Collection")] 81

def k10c0 : Code := { maxStack := 1, maxLocals := 1, code := jdk_22_method_1_code, exceptionTable := #[], attributes := #[] }
def k10m0 : Method := { name := "<init>", desc := "()V", sig := { parameters := [], returnType := none }, accessFlags := 4, code := some k10c0 }
/-- java/util/AbstractCollection -/
def k10 : Class := { plain "java/util/AbstractCollection" (some 0) with
  accessFlags := 1057
  interfaces := #[9]
  cf := some (fileOf pool10 8 #[] #[{ accessFlags := 4, nameIndex := 5, descriptorIndex := 6, attributes := #[] }] 1057 2 #[77] #[])
  fields := #[]
  methods := #[k10m0]
  instanceTypes := #[]
  staticTypes := #[]
  resolved := Array.replicate 160 none
  statics := none }

def pool11 : Array CpInfo := pool [(8, .class_ 10), (1, u "java/util/SequencedCollection"), (15, .class_ 27), (0, u "java/lang/Object"), (0, .class_ 29), (0, u "java/util/Collection")] 27

/-- java/util/SequencedCollection -/
def k11 : Class := { plain "java/util/SequencedCollection" (some 0) with
  accessFlags := 1537
  interfaces := #[9]
  cf := some (fileOf pool11 8 #[] #[] 1537 26 #[28] #[])
  fields := #[]
  methods := #[]
  instanceTypes := #[]
  staticTypes := #[]
  resolved := Array.replicate 57 none
  statics := none }

def pool12 : Array CpInfo := pool [(8, .class_ 10), (1, u "java/util/List"), (92, .class_ 104), (0, u "java/lang/Object"), (15, .class_ 121), (0, u "java/util/SequencedCollection"), (1, u "iterator"), (0, u "()Ljava/util/Iterator;")] 126

def k12m0 : Method := { name := "iterator", desc := "()Ljava/util/Iterator;", sig := { parameters := [], returnType := some (.object "java/util/Iterator") }, accessFlags := 1025, code := none }
/-- java/util/List -/
def k12 : Class := { plain "java/util/List" (some 0) with
  accessFlags := 1537
  interfaces := #[11]
  cf := some (fileOf pool12 8 #[] #[{ accessFlags := 1025, nameIndex := 123, descriptorIndex := 124, attributes := #[] }] 1537 103 #[120] #[])
  fields := #[]
  methods := #[k12m0]
  instanceTypes := #[]
  staticTypes := #[]
  resolved := Array.replicate 251 none
  statics := none }

def pool13 : Array CpInfo := pool [(1, .methodref 2 3), (0, .class_ 4), (0, .nameAndType 5 6), (0, u "java/util/AbstractCollection"), (0, u "<init>"), (0, u "()V"), (0, .fieldref 8 9), (0, .class_ 10), (0, .nameAndType 11 12), (0, u "java/util/AbstractList"), (0, u "modCount"), (0, u "I"), (64, .class_ 78), (0, u "java/util/AbstractList$Itr"), (3, .class_ 83), (0, u "java/util/AbstractList$ListItr"), (9, .class_ 94), (0, u "java/util/AbstractList$RandomAccessSubList"), (3, .class_ 99), (0, u "java/util/AbstractList$SubList"), (33, .class_ 134), (0, u "java/util/List"), (73, .class_ 209), (0, u "java/util/AbstractList$SubList$1"), (0, .class_ 211), (0, u "java/util/AbstractList$RandomAccessSpliterator")] 6

def k13c0 : Code := { maxStack := 2, maxLocals := 1, code := jdk_39_method_1_code, exceptionTable := #[], attributes := #[] }
def k13m0 : Method := { name := "<init>", desc := "()V", sig := { parameters := [], returnType := none }, accessFlags := 4, code := some k13c0 }
/-- java/util/AbstractList -/
def k13 : Class := { plain "java/util/AbstractList" (some 10) with
  accessFlags := 1057
  interfaces := #[12]
  cf := some (fileOf pool13 8 #[.nestMembers #[93, 98, 208, 210, 82, 77]] #[{ accessFlags := 4, nameIndex := 5, descriptorIndex := 6, attributes := #[] }] 1057 2 #[133] #[{ accessFlags := 132, nameIndex := 11, descriptorIndex := 12, attributes := #[] }])
  fields := #[{ name := "modCount", type := .int, accessFlags := 132, slot := 0, constantValue := 0 }]
  methods := #[k13m0]
  instanceTypes := #[.int]
  staticTypes := #[]
  resolved := Array.replicate 218 none
  statics := none }

def pool14 : Array CpInfo := pool [(1, .class_ 2), (0, u "java/util/RandomAccess"), (0, .class_ 4), (0, u "java/lang/Object")] 2

/-- java/util/RandomAccess -/
def k14 : Class := { plain "java/util/RandomAccess" (some 0) with
  accessFlags := 1537
  interfaces := #[]
  cf := some (fileOf pool14 1 #[] #[] 1537 3 #[] #[])
  fields := #[]
  methods := #[]
  instanceTypes := #[]
  staticTypes := #[]
  resolved := Array.replicate 7 none
  statics := none }

def pool15 : Array CpInfo := pool [(1, .methodref 2 3), (0, .class_ 4), (0, .nameAndType 5 6), (0, u "java/util/AbstractList"), (0, u "<init>"), (0, u "()V"), (2, .fieldref 10 11), (0, .class_ 12), (0, .nameAndType 13 14), (0, u "java/util/ArrayList"), (0, u "elementData"), (0, u "[Ljava/lang/Object;"), (2, u "EMPTY_ELEMENTDATA"), (21, .fieldref 10 40), (0, .nameAndType 41 14), (0, u "DEFAULTCAPACITY_EMPTY_ELEMENTDATA"), (8, u "size"), (0, u "I"), (96, .class_ 149), (0, u "java/util/List"), (16, u "iterator"), (0, u "()Ljava/util/Iterator;"), (94, .class_ 263), (0, u "java/util/ArrayList$ListItr"), (3, .class_ 268), (0, u "java/util/ArrayList$Itr"), (0, .methodref 267 270), (0, .nameAndType 5 271), (0, u "(Ljava/util/ArrayList;)V"), (4, .class_ 277), (0, u "java/util/ArrayList$SubList"), (12, .class_ 291), (0, u "java/util/ArrayList$ArrayListSpliterator"), (37, .class_ 330), (0, u "java/util/RandomAccess"), (0, .class_ 332), (0, u "java/lang/Cloneable"), (0, .class_ 334), (0, u "java/io/Serializable"), (0, u "serialVersionUID"), (0, u "J"), (3, u "DEFAULT_CAPACITY"), (159, .class_ 501), (0, u "java/util/ArrayList$SubList$2"), (0, .class_ 503), (0, u "java/util/ArrayList$SubList$1")] 5

def k15c0 : Code := { maxStack := 2, maxLocals := 1, code := jdk_38_method_2_code, exceptionTable := #[], attributes := #[] }
def k15m0 : Method := { name := "<init>", desc := "()V", sig := { parameters := [], returnType := none }, accessFlags := 1, code := some k15c0 }
def k15c1 : Code := { maxStack := 3, maxLocals := 1, code := jdk_38_method_55_code, exceptionTable := #[], attributes := #[] }
def k15m1 : Method := { name := "iterator", desc := "()Ljava/util/Iterator;", sig := { parameters := [], returnType := some (.object "java/util/Iterator") }, accessFlags := 1, code := some k15c1 }
/-- java/util/ArrayList -/
def k15 : Class := { plain "java/util/ArrayList" (some 13) with
  accessFlags := 33
  interfaces := #[12, 14, 5, 6]
  cf := some (fileOf pool15 10 #[.nestMembers #[290, 276, 500, 502, 262, 267]] #[{ accessFlags := 1, nameIndex := 5, descriptorIndex := 6, attributes := #[] }, { accessFlags := 1, nameIndex := 166, descriptorIndex := 167, attributes := #[] }] 33 2 #[148, 329, 331, 333] #[{ accessFlags := 26, nameIndex := 335, descriptorIndex := 336, attributes := #[] }, { accessFlags := 26, nameIndex := 340, descriptorIndex := 51, attributes := #[] }, { accessFlags := 26, nameIndex := 17, descriptorIndex := 14, attributes := #[] }, { accessFlags := 26, nameIndex := 41, descriptorIndex := 14, attributes := #[] }, { accessFlags := 128, nameIndex := 13, descriptorIndex := 14, attributes := #[] }, { accessFlags := 2, nameIndex := 50, descriptorIndex := 51, attributes := #[] }])
  fields := #[{ name := "serialVersionUID", type := .long, accessFlags := 26, slot := 0, constantValue := 0 }, { name := "DEFAULT_CAPACITY", type := .int, accessFlags := 26, slot := 1, constantValue := 0 }, { name := "EMPTY_ELEMENTDATA", type := (.array (.object "java/lang/Object")), accessFlags := 26, slot := 2, constantValue := 0 }, { name := "DEFAULTCAPACITY_EMPTY_ELEMENTDATA", type := (.array (.object "java/lang/Object")), accessFlags := 26, slot := 3, constantValue := 0 }, { name := "elementData", type := (.array (.object "java/lang/Object")), accessFlags := 128, slot := 1, constantValue := 0 }, { name := "size", type := .int, accessFlags := 2, slot := 2, constantValue := 0 }]
  methods := #[k15m0, k15m1]
  instanceTypes := #[.int, (.array (.object "java/lang/Object")), .int]
  staticTypes := #[.long, .int, (.array (.object "java/lang/Object")), (.array (.object "java/lang/Object"))]
  resolved := Array.replicate 509 none
  statics := some 0 }

def pool16 : Array CpInfo := pool [(2, .class_ 4), (1, u "java/lang/Object"), (0, u "<init>"), (0, u "()V"), (1, .class_ 10), (1, u "java/lang/System"), (0, u "allowSecurityManager"), (0, u "I"), (16, u "cons"), (0, u "Ljava/io/Console;"), (77, .class_ 110), (1, u "java/lang/System$CallersHolder"), (43, u "initialErrStream"), (0, u "Ljava/io/PrintStream;"), (19, u "security"), (0, u "Ljava/lang/SecurityManager;"), (31, .class_ 209), (0, u "java/lang/System$1"), (7, u "props"), (0, u "Ljava/util/Properties;"), (2, u "lineSeparator"), (0, u "Ljava/lang/String;"), (96, .class_ 321), (1, u "java/lang/System$LoggerFinder"), (5, .class_ 328), (0, u "java/lang/System$Logger"), (67, u "err"), (2, u "out"), (91, u "notSupportedJnuEncoding"), (15, u "in"), (17, u "initialIn"), (0, u "Ljava/io/InputStream;"), (35, u "bootLayer"), (0, u "Ljava/lang/ModuleLayer;"), (99, .class_ 664), (0, u "java/lang/System$2"), (9, u "NEVER"), (2, u "MAYBE"), (49, u "arraycopy"), (0, u "(Ljava/lang/Object;ILjava/lang/Object;II)V"), (72, .class_ 802), (0, u "java/lang/System$Logger$Level")] 31

def k16m0 : Method := { name := "<init>", desc := "()V", sig := { parameters := [], returnType := none }, accessFlags := 2, code := none }
def k16m1 : Method := { name := "arraycopy", desc := "(Ljava/lang/Object;ILjava/lang/Object;II)V", sig := { parameters := [(.object "java/lang/Object"), .int, (.object "java/lang/Object"), .int, .int], returnType := none }, accessFlags := 265, code := none }
/-- java/lang/System -/
def k16 : Class := { plain "java/lang/System" (some 0) with
  accessFlags := 49
  interfaces := #[]
  cf := some (fileOf pool16 8 #[.nestMembers #[319, 327, 801, 108, 663, 208]] #[{ accessFlags := 2, nameIndex := 5, descriptorIndex := 6, attributes := #[] }, { accessFlags := 265, nameIndex := 727, descriptorIndex := 728, attributes := #[] }] 49 2 #[] #[{ accessFlags := 25, nameIndex := 507, descriptorIndex := 526, attributes := #[] }, { accessFlags := 25, nameIndex := 399, descriptorIndex := 155, attributes := #[] }, { accessFlags := 25, nameIndex := 396, descriptorIndex := 155, attributes := #[] }, { accessFlags := 10, nameIndex := 525, descriptorIndex := 526, attributes := #[] }, { accessFlags := 26, nameIndex := 674, descriptorIndex := 12, attributes := #[] }, { accessFlags := 26, nameIndex := 677, descriptorIndex := 12, attributes := #[] }, { accessFlags := 10, nameIndex := 11, descriptorIndex := 12, attributes := #[] }, { accessFlags := 74, nameIndex := 175, descriptorIndex := 176, attributes := #[] }, { accessFlags := 10, nameIndex := 491, descriptorIndex := 222, attributes := #[] }, { accessFlags := 74, nameIndex := 29, descriptorIndex := 30, attributes := #[] }, { accessFlags := 74, nameIndex := 154, descriptorIndex := 155, attributes := #[] }, { accessFlags := 10, nameIndex := 217, descriptorIndex := 218, attributes := #[] }, { accessFlags := 10, nameIndex := 221, descriptorIndex := 222, attributes := #[] }, { accessFlags := 8, nameIndex := 562, descriptorIndex := 563, attributes := #[] }])
  fields := #[{ name := "in", type := (.object "java/io/InputStream"), accessFlags := 25, slot := 0, constantValue := 0 }, { name := "out", type := (.object "java/io/PrintStream"), accessFlags := 25, slot := 1, constantValue := 0 }, { name := "err", type := (.object "java/io/PrintStream"), accessFlags := 25, slot := 2, constantValue := 0 }, { name := "initialIn", type := (.object "java/io/InputStream"), accessFlags := 10, slot := 3, constantValue := 0 }, { name := "NEVER", type := .int, accessFlags := 26, slot := 4, constantValue := 0 }, { name := "MAYBE", type := .int, accessFlags := 26, slot := 5, constantValue := 0 }, { name := "allowSecurityManager", type := .int, accessFlags := 10, slot := 6, constantValue := 0 }, { name := "security", type := (.object "java/lang/SecurityManager"), accessFlags := 74, slot := 7, constantValue := 0 }, { name := "notSupportedJnuEncoding", type := (.object "java/lang/String"), accessFlags := 10, slot := 8, constantValue := 0 }, { name := "cons", type := (.object "java/io/Console"), accessFlags := 74, slot := 9, constantValue := 0 }, { name := "initialErrStream", type := (.object "java/io/PrintStream"), accessFlags := 74, slot := 10, constantValue := 0 }, { name := "props", type := (.object "java/util/Properties"), accessFlags := 10, slot := 11, constantValue := 0 }, { name := "lineSeparator", type := (.object "java/lang/String"), accessFlags := 10, slot := 12, constantValue := 0 }, { name := "bootLayer", type := (.object "java/lang/ModuleLayer"), accessFlags := 8, slot := 13, constantValue := 0 }]
  methods := #[k16m0, k16m1]
  instanceTypes := #[]
  staticTypes := #[(.object "java/io/InputStream"), (.object "java/io/PrintStream"), (.object "java/io/PrintStream"), (.object "java/io/InputStream"), .int, .int, .int, (.object "java/lang/SecurityManager"), (.object "java/lang/String"), (.object "java/io/Console"), (.object "java/io/PrintStream"), (.object "java/util/Properties"), (.object "java/lang/String"), (.object "java/lang/ModuleLayer")]
  resolved := Array.replicate 834 none
  statics := none }

def pool17 : Array CpInfo := pool [(16, .class_ 18), (1, u "java/util/Iterator"), (0, u "hasNext"), (0, u "()Z"), (10, .class_ 32), (0, u "java/lang/Object")] 20

def k17m0 : Method := { name := "hasNext", desc := "()Z", sig := { parameters := [], returnType := some .boolean }, accessFlags := 1025, code := none }
/-- java/util/Iterator -/
def k17 : Class := { plain "java/util/Iterator" (some 0) with
  accessFlags := 1537
  interfaces := #[]
  cf := some (fileOf pool17 16 #[] #[{ accessFlags := 1025, nameIndex := 19, descriptorIndex := 20, attributes := #[] }] 1537 31 #[] #[])
  fields := #[]
  methods := #[k17m0]
  instanceTypes := #[]
  staticTypes := #[]
  resolved := Array.replicate 53 none
  statics := none }

def pool18 : Array CpInfo := pool [(1, .fieldref 2 3), (0, .class_ 4), (0, .nameAndType 5 6), (0, u "java/util/ArrayList$Itr"), (0, u "this$0"), (0, u "Ljava/util/ArrayList;"), (0, .methodref 8 9), (0, .class_ 10), (0, .nameAndType 11 12), (0, u "java/lang/Object"), (0, u "<init>"), (0, u "()V"), (0, .fieldref 2 14), (0, .nameAndType 15 16), (0, u "lastRet"), (0, u "I"), (0, .fieldref 18 19), (0, .class_ 20), (0, .nameAndType 21 16), (0, u "java/util/ArrayList"), (0, u "modCount"), (0, .fieldref 2 23), (0, .nameAndType 24 16), (0, u "expectedModCount"), (0, .fieldref 2 26), (0, .nameAndType 27 16), (0, u "cursor"), (0, .fieldref 18 29), (0, .nameAndType 30 16), (0, u "size"), (38, .class_ 70), (0, u "java/util/Iterator"), (0, u "(Ljava/util/ArrayList;)V"), (8, u "hasNext"), (0, u "()Z")] 22

def k18c0 : Code := { maxStack := 2, maxLocals := 2, code := jdk_49_method_1_code, exceptionTable := #[], attributes := #[] }
def k18m0 : Method := { name := "<init>", desc := "(Ljava/util/ArrayList;)V", sig := { parameters := [(.object "java/util/ArrayList")], returnType := none }, accessFlags := 0, code := some k18c0 }
def k18c1 : Code := { maxStack := 2, maxLocals := 1, code := jdk_49_method_2_code, exceptionTable := #[], attributes := #[] }
def k18m1 : Method := { name := "hasNext", desc := "()Z", sig := { parameters := [], returnType := some .boolean }, accessFlags := 1, code := some k18c1 }
/-- java/util/ArrayList$Itr -/
def k18 : Class := { plain "java/util/ArrayList$Itr" (some 0) with
  accessFlags := 32
  interfaces := #[17]
  cf := some (fileOf pool18 2 #[.nestHost 18] #[{ accessFlags := 0, nameIndex := 11, descriptorIndex := 71, attributes := #[] }, { accessFlags := 1, nameIndex := 80, descriptorIndex := 81, attributes := #[] }] 32 8 #[69] #[{ accessFlags := 0, nameIndex := 27, descriptorIndex := 16, attributes := #[] }, { accessFlags := 0, nameIndex := 15, descriptorIndex := 16, attributes := #[] }, { accessFlags := 0, nameIndex := 24, descriptorIndex := 16, attributes := #[] }, { accessFlags := 4112, nameIndex := 5, descriptorIndex := 6, attributes := #[] }])
  fields := #[{ name := "cursor", type := .int, accessFlags := 0, slot := 0, constantValue := 0 }, { name := "lastRet", type := .int, accessFlags := 0, slot := 1, constantValue := 0 }, { name := "expectedModCount", type := .int, accessFlags := 0, slot := 2, constantValue := 0 }, { name := "this$0", type := (.object "java/util/ArrayList"), accessFlags := 4112, slot := 3, constantValue := 0 }]
  methods := #[k18m0, k18m1]
  instanceTypes := #[.int, .int, .int, (.object "java/util/ArrayList")]
  staticTypes := #[]
  resolved := Array.replicate 104 none
  statics := none }

/-- the primitive byte -/
def k19 : Class := { plain "byte" none with kind := .primitive 'B', accessFlags := 0x411 }
/-- [B -/
def k20 : Class := { plain "[B" (some 0) with kind := .array 19 .byte, interfaces := #[5, 6], accessFlags := 1041 }

/-- the primitive int -/
def k21 : Class := { plain "int" none with kind := .primitive 'I', accessFlags := 0x411 }
/-- [I -/
def k22 : Class := { plain "[I" (some 0) with kind := .array 21 .int, interfaces := #[5, 6], accessFlags := 1041 }

/-- the primitive long -/
def k23 : Class := { plain "long" none with kind := .primitive 'J', accessFlags := 0x411 }
/-- [J -/
def k24 : Class := { plain "[J" (some 0) with kind := .array 23 .long, interfaces := #[5, 6], accessFlags := 1041 }

/-- [Ljava/lang/Object; -/
def k25 : Class := { plain "[Ljava/lang/Object;" (some 0) with kind := .array 0 (.object "java/lang/Object"), interfaces := #[5, 6], accessFlags := 1041 }

def heap : Heap := #[{ cls := 15, slots := #[.long 0, .int 0, .ref 1, .ref 2], vm := .statics 15 },
  { cls := 25, slots := #[], vm := .none },
  { cls := 25, slots := #[], vm := .none }]
def classes : Array Class := #[k0, k1, k2, k3, k4, k5, k6, k7, k8, k9, k10, k11, k12, k13, k14, k15, k16, k17, k18, k19, k20, k21, k22, k23, k24, k25]
def interned : List (Array UInt16 × Addr) := []
def slotsUsed : Nat := 4
def theMethod : MethodId := ⟨1, 1⟩
def args0 : Array Value := #[.int 5, .int 5, .int 5]
def aboutOver (below : List Frame) : State where
  vm := { classes := classes, interned := interned.toArray }
  heap := heap
  slotsUsed := slotsUsed
  threads := #[{ frames := .invoking theMethod args0 :: below }]
def below0 : List Frame := [.native { method := ⟨0, 0⟩, args := #[] }]
def about1 : State := aboutOver below0
def p0 : Program := .bare "" "" ""
def e0 : Env := launch0.env 0 0 0
theorem w_frames : about1.frames = Frame.invoking theMethod args0 :: below0 := rfl
set_option maxRecDepth 65536 in
theorem w_args : argsFit about1.vm theMethod args0 = true := by decide +kernel
set_option maxRecDepth 65536 in
theorem w_heap : heapFits about1 = true := by decide +kernel
set_option maxRecDepth 65536 in
theorem w_runnable : about1.curStatus? = some .runnable := by decide +kernel
set_option maxRecDepth 65536 in
theorem w_alone : about1.alone = true := by decide +kernel
set_option maxRecDepth 65536 in
theorem w_named : about1.methodNamed? x = some theMethod := by decide +kernel
set_option maxRecDepth 65536 in
theorem w_hears : about1.hears theMethod below0 = true := by decide +kernel
set_option maxRecDepth 65536 in
theorem w_ripe : about1.ripe theMethod args0 below0 = true := by decide +kernel
theorem w_running : about1.status = .running := rfl
set_option maxRecDepth 65536 in
theorem w_room : about1.hasRoom e0.platform room_1 = true :=
  launch0.hasRoom_least _ room_1 (by decide +kernel) (by decide +kernel) (by decide +kernel) (by decide +kernel) (by decide +kernel) (by decide +kernel)
theorem allAtoms_all (ts : List Jvm.Cond) (a : Array Jvm.Value) (st : Jvm.State) : (allAtoms ts).before a st = ts.all (fun c => c.before a st) := by
  induction ts with
  | nil => rfl
  | cons c t ih =>
    show (Jvm.Cond.and c (allAtoms t)).before a st = _
    rw [Jvm.Cond.before_and, ih, List.all_cons]
def words1 : List Jvm.Cond := Jvm.Cond.code x code maxLocals ret :: tables_1
/-- a 'code' word, met by the world's own term for the bytes: nothing is compared byte by byte -/
theorem code_word {y : MethodName} {bytes : ByteArray} {mx : Nat} {rt : Option FieldType} {a : Array Value} {s : State} {m : MethodId} {meth : Method} {c : Code} (h1 : s.methodNamed? y = some m) (h2 : s.vm.method? m = some meth) (h3 : meth.code = some c) (h4 : c.code = bytes)
    (h5 : (c.maxLocals == mx && c.exceptionTable.isEmpty && decide (c.maxStack ≤ mostOperands) && decide (meth.sig.returnType = rt) && !meth.locks && decide (parseMethodDescriptor y.desc = some meth.sig)) = true) : (Jvm.Cond.code y bytes mx rt).before a s = true := by
  simp only [Bool.and_eq_true, beq_iff_eq, Bool.not_eq_true', decide_eq_true_eq] at h5
  obtain ⟨⟨⟨⟨⟨g1, g2⟩, g3⟩, g4⟩, g5⟩, g6⟩ := h5
  simp [Cond.before, Cond.holds, Cond.value, h1, h2, h3, h4, g1, g2, g3, g4, g5, g6]
def isCode : Jvm.Cond → Bool
  | .code _ _ _ _ => true
  | _ => false
theorem all_split {L : List Jvm.Cond} {P : Jvm.Cond → Bool} (h1 : L.all (fun c => isCode c || P c) = true) (h2 : ∀ c ∈ L.filter isCode, P c = true) : L.all P = true := by
  refine List.all_eq_true.mpr fun c hc => ?_
  have h := List.all_eq_true.mp h1 c hc
  rcases Bool.eq_false_or_eq_true (isCode c) with hi | hi
  · exact h2 c (List.mem_filter.mpr ⟨hc, hi⟩)
  · simpa [hi] using h
set_option maxRecDepth 65536 in
theorem w_c0 : (Jvm.Cond.code x code maxLocals ret).before args0 about1 = true := code_word (m := ⟨1, 1⟩) (meth := k1m1) (c := k1c1) (by decide +kernel) rfl rfl rfl (by decide +kernel)
set_option maxRecDepth 65536 in
theorem w_c1 : (Jvm.Cond.code ({ cls := "com/example/mendb/mendb/TupleStore", name := "<init>", desc := "(I)V" } : Jvm.MethodName) prog_126_method_1_code (2 : Nat) (Option.none : Option Jvm.ClassFile.FieldType)).before args0 about1 = true := code_word (m := ⟨2, 0⟩) (meth := k2m0) (c := k2c0) (by decide +kernel) rfl rfl rfl (by decide +kernel)
set_option maxRecDepth 65536 in
theorem w_c2 : (Jvm.Cond.code ({ cls := "java/lang/Object", name := "<init>", desc := "()V" } : Jvm.MethodName) object_method_1_code (1 : Nat) (Option.none : Option Jvm.ClassFile.FieldType)).before args0 about1 = true := code_word (m := ⟨0, 0⟩) (meth := k0m0) (c := k0c0) (by decide +kernel) rfl rfl rfl (by decide +kernel)
set_option maxRecDepth 65536 in
theorem w_c3 : (Jvm.Cond.code ({ cls := "java/util/HashMap", name := "<init>", desc := "()V" } : Jvm.MethodName) jdk_69_method_7_code (1 : Nat) (Option.none : Option Jvm.ClassFile.FieldType)).before args0 about1 = true := code_word (m := ⟨7, 0⟩) (meth := k7m0) (c := k7c0) (by decide +kernel) rfl rfl rfl (by decide +kernel)
set_option maxRecDepth 65536 in
theorem w_c4 : (Jvm.Cond.code ({ cls := "java/util/AbstractMap", name := "<init>", desc := "()V" } : Jvm.MethodName) jdk_71_method_1_code (1 : Nat) (Option.none : Option Jvm.ClassFile.FieldType)).before args0 about1 = true := code_word (m := ⟨4, 0⟩) (meth := k4m0) (c := k4c0) (by decide +kernel) rfl rfl rfl (by decide +kernel)
set_option maxRecDepth 65536 in
theorem w_c5 : (Jvm.Cond.code ({ cls := "java/util/ArrayList", name := "<init>", desc := "()V" } : Jvm.MethodName) jdk_38_method_2_code (1 : Nat) (Option.none : Option Jvm.ClassFile.FieldType)).before args0 about1 = true := code_word (m := ⟨15, 0⟩) (meth := k15m0) (c := k15c0) (by decide +kernel) rfl rfl rfl (by decide +kernel)
set_option maxRecDepth 65536 in
theorem w_c6 : (Jvm.Cond.code ({ cls := "java/util/AbstractList", name := "<init>", desc := "()V" } : Jvm.MethodName) jdk_39_method_1_code (1 : Nat) (Option.none : Option Jvm.ClassFile.FieldType)).before args0 about1 = true := code_word (m := ⟨13, 0⟩) (meth := k13m0) (c := k13c0) (by decide +kernel) rfl rfl rfl (by decide +kernel)
set_option maxRecDepth 65536 in
theorem w_c7 : (Jvm.Cond.code ({ cls := "java/util/AbstractCollection", name := "<init>", desc := "()V" } : Jvm.MethodName) jdk_22_method_1_code (1 : Nat) (Option.none : Option Jvm.ClassFile.FieldType)).before args0 about1 = true := code_word (m := ⟨10, 0⟩) (meth := k10m0) (c := k10c0) (by decide +kernel) rfl rfl rfl (by decide +kernel)
set_option maxRecDepth 65536 in
theorem w_c8 : (Jvm.Cond.code ({ cls := "com/example/mendb/mendb/TupleStore", name := "add", desc := "([I)Z" } : Jvm.MethodName) prog_126_method_21_code (2 : Nat) (Option.some Jvm.ClassFile.FieldType.boolean)).before args0 about1 = true := code_word (m := ⟨2, 3⟩) (meth := k2m3) (c := k2c3) (by decide +kernel) rfl rfl rfl (by decide +kernel)
set_option maxRecDepth 65536 in
theorem w_c9 : (Jvm.Cond.code ({ cls := "com/example/mendb/mendb/TupleStore", name := "add", desc := "([IJ)Z" } : Jvm.MethodName) prog_126_method_22_code (9 : Nat) (Option.some Jvm.ClassFile.FieldType.boolean)).before args0 about1 = true := code_word (m := ⟨2, 4⟩) (meth := k2m4) (c := k2c4) (by decide +kernel) rfl rfl rfl (by decide +kernel)
set_option maxRecDepth 65536 in
theorem w_c10 : (Jvm.Cond.code ({ cls := "com/example/mendb/mendb/TupleStore", name := "hash", desc := "([II)I" } : Jvm.MethodName) prog_126_method_42_code (5 : Nat) (Option.some Jvm.ClassFile.FieldType.int)).before args0 about1 = true := code_word (m := ⟨2, 10⟩) (meth := k2m10) (c := k2c10) (by decide +kernel) rfl rfl rfl (by decide +kernel)
set_option maxRecDepth 65536 in
theorem w_c11 : (Jvm.Cond.code ({ cls := "com/example/mendb/mendb/TupleStore", name := "mix", desc := "(II)I" } : Jvm.MethodName) prog_126_method_44_code (2 : Nat) (Option.some Jvm.ClassFile.FieldType.int)).before args0 about1 = true := code_word (m := ⟨2, 11⟩) (meth := k2m11) (c := k2c11) (by decide +kernel) rfl rfl rfl (by decide +kernel)
set_option maxRecDepth 65536 in
theorem w_c12 : (Jvm.Cond.code ({ cls := "com/example/mendb/mendb/TupleStore", name := "finish", desc := "(I)I" } : Jvm.MethodName) prog_126_method_45_code (2 : Nat) (Option.some Jvm.ClassFile.FieldType.int)).before args0 about1 = true := code_word (m := ⟨2, 12⟩) (meth := k2m12) (c := k2c12) (by decide +kernel) rfl rfl rfl (by decide +kernel)
set_option maxRecDepth 65536 in
theorem w_c13 : (Jvm.Cond.code ({ cls := "java/util/ArrayList", name := "iterator", desc := "()Ljava/util/Iterator;" } : Jvm.MethodName) jdk_38_method_55_code (1 : Nat) (Option.some (Jvm.ClassFile.FieldType.object "java/util/Iterator"))).before args0 about1 = true := code_word (m := ⟨15, 1⟩) (meth := k15m1) (c := k15c1) (by decide +kernel) rfl rfl rfl (by decide +kernel)
set_option maxRecDepth 65536 in
theorem w_c14 : (Jvm.Cond.code ({ cls := "java/util/ArrayList$Itr", name := "<init>", desc := "(Ljava/util/ArrayList;)V" } : Jvm.MethodName) jdk_49_method_1_code (2 : Nat) (Option.none : Option Jvm.ClassFile.FieldType)).before args0 about1 = true := code_word (m := ⟨18, 0⟩) (meth := k18m0) (c := k18c0) (by decide +kernel) rfl rfl rfl (by decide +kernel)
set_option maxRecDepth 65536 in
theorem w_c15 : (Jvm.Cond.code ({ cls := "java/util/ArrayList$Itr", name := "hasNext", desc := "()Z" } : Jvm.MethodName) jdk_49_method_2_code (1 : Nat) (Option.some Jvm.ClassFile.FieldType.boolean)).before args0 about1 = true := code_word (m := ⟨18, 1⟩) (meth := k18m1) (c := k18c1) (by decide +kernel) rfl rfl rfl (by decide +kernel)
set_option maxRecDepth 65536 in
theorem w_c16 : (Jvm.Cond.code ({ cls := "com/example/mendb/mendb/TupleStore", name := "remove", desc := "(I)V" } : Jvm.MethodName) prog_126_method_25_code (7 : Nat) (Option.none : Option Jvm.ClassFile.FieldType)).before args0 about1 = true := code_word (m := ⟨2, 5⟩) (meth := k2m5) (c := k2c5) (by decide +kernel) rfl rfl rfl (by decide +kernel)
set_option maxRecDepth 65536 in
theorem w_c17 : (Jvm.Cond.code ({ cls := "com/example/mendb/mendb/TupleStore", name := "beginCommit", desc := "()V" } : Jvm.MethodName) prog_126_method_26_code (2 : Nat) (Option.none : Option Jvm.ClassFile.FieldType)).before args0 about1 = true := code_word (m := ⟨2, 6⟩) (meth := k2m6) (c := k2c6) (by decide +kernel) rfl rfl rfl (by decide +kernel)
set_option maxRecDepth 65536 in
theorem w_c18 : (Jvm.Cond.code ({ cls := "com/example/mendb/mendb/TupleStore", name := "state", desc := "(I)B" } : Jvm.MethodName) prog_126_method_14_code (2 : Nat) (Option.some Jvm.ClassFile.FieldType.byte)).before args0 about1 = true := code_word (m := ⟨2, 1⟩) (meth := k2m1) (c := k2c1) (by decide +kernel) rfl rfl rfl (by decide +kernel)
set_option maxRecDepth 65536 in
theorem w_c19 : (Jvm.Cond.code ({ cls := "com/example/mendb/mendb/TupleStore", name := "firstAdded", desc := "()I" } : Jvm.MethodName) prog_126_method_27_code (1 : Nat) (Option.some Jvm.ClassFile.FieldType.int)).before args0 about1 = true := code_word (m := ⟨2, 7⟩) (meth := k2m7) (c := k2c7) (by decide +kernel) rfl rfl rfl (by decide +kernel)
set_option maxRecDepth 65536 in
theorem w_c20 : (Jvm.Cond.code ({ cls := "com/example/mendb/mendb/TupleStore", name := "removedCount", desc := "()I" } : Jvm.MethodName) prog_126_method_28_code (1 : Nat) (Option.some Jvm.ClassFile.FieldType.int)).before args0 about1 = true := code_word (m := ⟨2, 8⟩) (meth := k2m8) (c := k2c8) (by decide +kernel) rfl rfl rfl (by decide +kernel)
set_option maxRecDepth 65536 in
theorem w_c21 : (Jvm.Cond.code ({ cls := "com/example/mendb/mendb/TupleStore", name := "countAtStart", desc := "()I" } : Jvm.MethodName) prog_126_method_18_code (1 : Nat) (Option.some Jvm.ClassFile.FieldType.int)).before args0 about1 = true := code_word (m := ⟨2, 2⟩) (meth := k2m2) (c := k2c2) (by decide +kernel) rfl rfl rfl (by decide +kernel)
set_option maxRecDepth 65536 in
theorem w_c22 : (Jvm.Cond.code ({ cls := "com/example/mendb/mendb/TupleStore", name := "equals", desc := "(I[II)Z" } : Jvm.MethodName) prog_126_method_41_code (6 : Nat) (Option.some Jvm.ClassFile.FieldType.boolean)).before args0 about1 = true := code_word (m := ⟨2, 9⟩) (meth := k2m9) (c := k2c9) (by decide +kernel) rfl rfl rfl (by decide +kernel)
def codes1 : List Jvm.Cond := [Jvm.Cond.code x code maxLocals ret, Jvm.Cond.code ({ cls := "com/example/mendb/mendb/TupleStore", name := "<init>", desc := "(I)V" } : Jvm.MethodName) prog_126_method_1_code (2 : Nat) (Option.none : Option Jvm.ClassFile.FieldType), Jvm.Cond.code ({ cls := "java/lang/Object", name := "<init>", desc := "()V" } : Jvm.MethodName) object_method_1_code (1 : Nat) (Option.none : Option Jvm.ClassFile.FieldType), Jvm.Cond.code ({ cls := "java/util/HashMap", name := "<init>", desc := "()V" } : Jvm.MethodName) jdk_69_method_7_code (1 : Nat) (Option.none : Option Jvm.ClassFile.FieldType), Jvm.Cond.code ({ cls := "java/util/AbstractMap", name := "<init>", desc := "()V" } : Jvm.MethodName) jdk_71_method_1_code (1 : Nat) (Option.none : Option Jvm.ClassFile.FieldType), Jvm.Cond.code ({ cls := "java/util/ArrayList", name := "<init>", desc := "()V" } : Jvm.MethodName) jdk_38_method_2_code (1 : Nat) (Option.none : Option Jvm.ClassFile.FieldType), Jvm.Cond.code ({ cls := "java/util/AbstractList", name := "<init>", desc := "()V" } : Jvm.MethodName) jdk_39_method_1_code (1 : Nat) (Option.none : Option Jvm.ClassFile.FieldType), Jvm.Cond.code ({ cls := "java/util/AbstractCollection", name := "<init>", desc := "()V" } : Jvm.MethodName) jdk_22_method_1_code (1 : Nat) (Option.none : Option Jvm.ClassFile.FieldType), Jvm.Cond.code ({ cls := "com/example/mendb/mendb/TupleStore", name := "add", desc := "([I)Z" } : Jvm.MethodName) prog_126_method_21_code (2 : Nat) (Option.some Jvm.ClassFile.FieldType.boolean), Jvm.Cond.code ({ cls := "com/example/mendb/mendb/TupleStore", name := "add", desc := "([IJ)Z" } : Jvm.MethodName) prog_126_method_22_code (9 : Nat) (Option.some Jvm.ClassFile.FieldType.boolean), Jvm.Cond.code ({ cls := "com/example/mendb/mendb/TupleStore", name := "hash", desc := "([II)I" } : Jvm.MethodName) prog_126_method_42_code (5 : Nat) (Option.some Jvm.ClassFile.FieldType.int), Jvm.Cond.code ({ cls := "com/example/mendb/mendb/TupleStore", name := "mix", desc := "(II)I" } : Jvm.MethodName) prog_126_method_44_code (2 : Nat) (Option.some Jvm.ClassFile.FieldType.int), Jvm.Cond.code ({ cls := "com/example/mendb/mendb/TupleStore", name := "finish", desc := "(I)I" } : Jvm.MethodName) prog_126_method_45_code (2 : Nat) (Option.some Jvm.ClassFile.FieldType.int), Jvm.Cond.code ({ cls := "java/util/ArrayList", name := "iterator", desc := "()Ljava/util/Iterator;" } : Jvm.MethodName) jdk_38_method_55_code (1 : Nat) (Option.some (Jvm.ClassFile.FieldType.object "java/util/Iterator")), Jvm.Cond.code ({ cls := "java/util/ArrayList$Itr", name := "<init>", desc := "(Ljava/util/ArrayList;)V" } : Jvm.MethodName) jdk_49_method_1_code (2 : Nat) (Option.none : Option Jvm.ClassFile.FieldType), Jvm.Cond.code ({ cls := "java/util/ArrayList$Itr", name := "hasNext", desc := "()Z" } : Jvm.MethodName) jdk_49_method_2_code (1 : Nat) (Option.some Jvm.ClassFile.FieldType.boolean), Jvm.Cond.code ({ cls := "com/example/mendb/mendb/TupleStore", name := "remove", desc := "(I)V" } : Jvm.MethodName) prog_126_method_25_code (7 : Nat) (Option.none : Option Jvm.ClassFile.FieldType), Jvm.Cond.code ({ cls := "com/example/mendb/mendb/TupleStore", name := "beginCommit", desc := "()V" } : Jvm.MethodName) prog_126_method_26_code (2 : Nat) (Option.none : Option Jvm.ClassFile.FieldType), Jvm.Cond.code ({ cls := "com/example/mendb/mendb/TupleStore", name := "state", desc := "(I)B" } : Jvm.MethodName) prog_126_method_14_code (2 : Nat) (Option.some Jvm.ClassFile.FieldType.byte), Jvm.Cond.code ({ cls := "com/example/mendb/mendb/TupleStore", name := "firstAdded", desc := "()I" } : Jvm.MethodName) prog_126_method_27_code (1 : Nat) (Option.some Jvm.ClassFile.FieldType.int), Jvm.Cond.code ({ cls := "com/example/mendb/mendb/TupleStore", name := "removedCount", desc := "()I" } : Jvm.MethodName) prog_126_method_28_code (1 : Nat) (Option.some Jvm.ClassFile.FieldType.int), Jvm.Cond.code ({ cls := "com/example/mendb/mendb/TupleStore", name := "countAtStart", desc := "()I" } : Jvm.MethodName) prog_126_method_18_code (1 : Nat) (Option.some Jvm.ClassFile.FieldType.int), Jvm.Cond.code ({ cls := "com/example/mendb/mendb/TupleStore", name := "equals", desc := "(I[II)Z" } : Jvm.MethodName) prog_126_method_41_code (6 : Nat) (Option.some Jvm.ClassFile.FieldType.boolean)]
set_option maxRecDepth 65536 in
theorem codes_eq : words1.filter isCode = codes1 := rfl
theorem w_codes : ∀ c ∈ words1.filter isCode, c.before args0 about1 = true := by
  rw [codes_eq]
  intro c hc
  simp only [codes1, List.mem_cons, List.not_mem_nil, or_false] at hc
  rcases hc with rfl | rfl | rfl | rfl | rfl | rfl | rfl | rfl | rfl | rfl | rfl | rfl | rfl | rfl | rfl | rfl | rfl | rfl | rfl | rfl | rfl | rfl | rfl
  · exact w_c0
  · exact w_c1
  · exact w_c2
  · exact w_c3
  · exact w_c4
  · exact w_c5
  · exact w_c6
  · exact w_c7
  · exact w_c8
  · exact w_c9
  · exact w_c10
  · exact w_c11
  · exact w_c12
  · exact w_c13
  · exact w_c14
  · exact w_c15
  · exact w_c16
  · exact w_c17
  · exact w_c18
  · exact w_c19
  · exact w_c20
  · exact w_c21
  · exact w_c22
set_option maxRecDepth 65536 in
theorem w_t1 : (words1.take 24).all (fun c => isCode c || c.before args0 about1) = true := by decide +kernel
set_option maxRecDepth 65536 in
theorem w_t2 : ((words1.drop 24).take 24).all (fun c => isCode c || c.before args0 about1) = true := by decide +kernel
set_option maxRecDepth 65536 in
theorem w_t3 : (((words1.drop 24).drop 24).take 24).all (fun c => isCode c || c.before args0 about1) = true := by decide +kernel
set_option maxRecDepth 65536 in
theorem w_t4 : ((((words1.drop 24).drop 24).drop 24).take 24).all (fun c => isCode c || c.before args0 about1) = true := by decide +kernel
set_option maxRecDepth 65536 in
theorem w_t5 : (((((words1.drop 24).drop 24).drop 24).drop 24).take 24).all (fun c => isCode c || c.before args0 about1) = true := by decide +kernel
set_option maxRecDepth 65536 in
theorem w_t6 : ((((((words1.drop 24).drop 24).drop 24).drop 24).drop 24).take 24).all (fun c => isCode c || c.before args0 about1) = true := by decide +kernel
set_option maxRecDepth 65536 in
theorem w_t7 : (((((((words1.drop 24).drop 24).drop 24).drop 24).drop 24).drop 24).take 24).all (fun c => isCode c || c.before args0 about1) = true := by decide +kernel
set_option maxRecDepth 65536 in
theorem w_t8 : (((((((words1.drop 24).drop 24).drop 24).drop 24).drop 24).drop 24).drop 24).all (fun c => isCode c || c.before args0 about1) = true := by decide +kernel
theorem w_tables : (allAtoms (Jvm.Cond.code x code maxLocals ret :: tables_1)).before args0 about1 = true := by
  rw [allAtoms_all]
  show words1.all (fun c => c.before args0 about1) = true
  refine all_split ?_ w_codes
  rw [← List.take_append_drop 24 words1, List.all_append, w_t1, ← List.take_append_drop 24 (words1.drop 24), List.all_append, w_t2, ← List.take_append_drop 24 ((words1.drop 24).drop 24), List.all_append, w_t3, ← List.take_append_drop 24 (((words1.drop 24).drop 24).drop 24), List.all_append, w_t4, ← List.take_append_drop 24 ((((words1.drop 24).drop 24).drop 24).drop 24), List.all_append, w_t5, ← List.take_append_drop 24 (((((words1.drop 24).drop 24).drop 24).drop 24).drop 24), List.all_append, w_t6, ← List.take_append_drop 24 ((((((words1.drop 24).drop 24).drop 24).drop 24).drop 24).drop 24), List.all_append, w_t7, w_t8]
  rfl
set_option maxRecDepth 65536 in
theorem w_rest : rest_1_c.before args0 about1 = true := by decide +kernel
set_option maxRecDepth 65536 in
theorem w_case : (Jvm.Cond.and given_1 narrow_1).before args0 about1 = true := by decide +kernel
theorem w_applies : (headSpec (Jvm.Cond.code x code maxLocals ret :: tables_1) room_1).applies x e0.platform about1 = true :=
  (Spec.applies_iff w_frames).mpr ⟨w_running, w_runnable, w_alone, w_named, w_hears, w_ripe, w_room, w_tables⟩
theorem atStart : AtStart classFile x code maxLocals ret World_1 tables_1 room_1 Calls_1 rest_1 Pre_1 launch0 p0 e0 about1 theMethod args0 below0 :=
  ⟨lists_1, trivial, launch0.admits_env _ _ _, launch0.least_env, fairChoices_fair.cas, fairChoices_fair.clock, w_frames, w_args, w_heap, w_applies, trivial, w_rest, w_case⟩
end start1
theorem witness_1 : WitnessClaimed_1 := ⟨start1.p0, start1.e0, start1.about1, start1.theMethod, start1.args0, start1.below0, start1.atStart⟩
end Jvm.Pilot.@@N@@
