import JvmDerived
import JvmDerived.Pilot.@@N@@Statement
import JvmDerived.Pilot.@@N@@Code
set_option linter.unusedVariables false
set_option linter.unusedSimpArgs false
@@BLOCK:LamKit.lean.txt@@
namespace Jvm.Pilot.@@N@@
open Jvm Jvm.ClassFile Sem Op Lib Jvm.Free Jvm.Stand Jvm.LawKit Jvm.RoadKit Bundle Jvm.Pilot.@@N@@.Jvm.D
/-! OWN FRAMEWORK, part 1: a weakest-precondition form of the walk (W), its single steps, returns, calls -/
/-- what is known of the heap: addresses with what their cells are -/
abbrev Asn := List (Addr × (Cell → Prop))
def Sep (Z : State) (n0 : Nat) (h : Heap) (σ : Asn) : Prop := Old Z n0 h ∧ (∀ x ∈ σ, n0 ≤ x.1 ∧ ∃ c : Cell, h[x.1]? = some c ∧ x.2 c) ∧ (σ.map (fun x => x.1)).Nodup
/-- a body: its class, name, bytes, max_locals, return kind -/
abbrev Bdy := String × String × ByteArray × Nat × Option FieldType × String
def Cx (p : Program) (s : State) (m : MethodId) (meth : Method) (c : Code) (Z : State) (B : Bdy) : Prop :=
  p.tables.exec = Jvm.exec ∧ c.code = B.2.2.1 ∧ c.maxLocals = B.2.2.2.1 ∧ s.vm.findClass B.1 = some m.cls ∧ meth.name = B.2.1 ∧ Z.WarmedH s.vm ∧ meth.sig.returnType = B.2.2.2.2.1 ∧ meth.locks = false ∧ s.methodNamed? ⟨B.1, B.2.1, B.2.2.2.2.2⟩ = some m
/-- from this point (known heap, pc, locals, stack) the body returns, and what it returns meets Q -/
def W (l : Launch) (Z : State) (n0 : Nat) (B : Bdy) (R : Room) (Q : Option Value → Asn → Prop) (cells slots : Nat) (σ : Asn) (pc : Nat) (ls : Array Slot) (st : List Value) : Prop :=
  ∀ (p : Program) (e : Env) (s : State) (m : MethodId) (args : Array Value) (below : List Frame) (meth : Method) (c : Code) (T : State) (locs : List Loc),
    Cx p s m meth c Z B → Stand p l e R s m args below meth c T locs cells slots → Fr n0 locs → Sep Z n0 T.heap σ →
    ∃ (u : State) (o : Outcome), Steps p.tables e below (T.setTop (mkF m pc ls st)) u ∧ u.status = .running ∧ Ended u below o ∧
      ∃ (v : Option Value) (L : List Loc), o = .returned v ∧ ((∃ σ', Q v σ' ∧ Sep Z n0 u.heap σ') ∧ Fr n0 L) ∧ FrameEnd s o u L R.cells R.slots
/-- a contract: called with these arguments on a heap that meets σ, the method returns, and Q holds -/
def Sp (l : Launch) (Z : State) (n0 : Nat) (y : MethodName) (bytes : ByteArray) (maxL : Nat) (ret : Option FieldType) (rm : Room) (as : List Value) (σ : Asn) (Q : Option Value → Asn → Prop) : Prop :=
  ∀ (ws : List Jvm.Cond) (h0 : Heap), Sep Z n0 h0 σ → MetFree l y (head1 (Jvm.Cond.code y bytes maxL ret :: ws) rm) (fun a U => a = as.toArray ∧ Z.WarmedH U.vm ∧ U.heap = h0) (fun _ _ _ _ _ => True)
    (fun _ U o U' => ∃ v L, o = .returned v ∧ ((∃ σ', Q v σ' ∧ Sep Z n0 U'.heap σ') ∧ Fr n0 L) ∧ FrameEnd U o U' L rm.cells rm.slots)
section Rules
variable {l : Launch} {Z : State} {n0 : Nat} {B : Bdy} {R : Room} {Q : Option Value → Asn → Prop} {cells slots : Nat} {σ : Asn} {pc pc' : Nat} {ls ls' : Array Slot} {st st' rest : List Value} {a0 : Array Value}
theorem Sp.of {y : MethodName} {bytes : ByteArray} {maxL : Nat} {ret : Option FieldType} {as : List Value} (hpn : plainFor y = true) (hent : ∀ m, entryFrame m as.toArray maxL = mkF m 0 ls [])
    (k : W l Z n0 (y.cls, y.name, bytes, maxL, ret, y.desc) R Q 0 0 σ 0 ls []) : Sp l Z n0 y bytes maxL ret R as σ Q := by
  intro ws h0 hS
  refine MetFree.of_bodySF hpn hisR ?_
  intro p e s m args below meth c s₁ Bd hml0 hP hK
  obtain ⟨rfl, hZ, hh⟩ := hP
  have e0 : s₁.heap = h0 := by rw [← hh, Bd.state]; rfl
  obtain ⟨u, o, h1, h2, h3, h4⟩ := k p e s m _ below meth c s₁ [] ⟨Bd.exec, Bd.bytes, hml0, findClass_of_methodNamed Bd.named, (name_of_methodNamed Bd.named Bd.method).1, hZ, Bd.returns, Bd.notSynchronized, Bd.named⟩ (Stand.of_body Bd) (Fr.nil n0) (by rw [e0]; exact hS)
  exact ⟨u, o, castTop (hent m) h1, h2, h3, h4⟩
theorem W.of (hstep : ∀ (p : Program) (e : Env) (s : State) (m : MethodId) (args : Array Value) (below : List Frame) (meth : Method) (c : Code) (T : State) (locs : List Loc), Cx p s m meth c Z B → Stand p l e R s m args below meth c T locs cells slots → ∀ t, Steps p.tables e below (T.setTop (mkF m pc' ls' st')) t → Steps p.tables e below (T.setTop (mkF m pc ls st)) t)
    (k : W l Z n0 B R Q cells slots σ pc' ls' st') : W l Z n0 B R Q cells slots σ pc ls st := by
  intro p e s m args below meth c T locs C X N S
  obtain ⟨u, o, h1, h2⟩ := k p e s m args below meth c T locs C X N S
  exact ⟨u, o, hstep p e s m args below meth c T locs C X u h1, h2⟩
theorem W.mono {Q' : Option Value → Asn → Prop} (hQ : ∀ v σ', Q v σ' → Q' v σ') (k : W l Z n0 B R Q cells slots σ pc ls st) : W l Z n0 B R Q' cells slots σ pc ls st := by
  intro p e s m args below meth c T locs C X N S
  obtain ⟨u, o, h1, h2, h3, v, L, h4, ⟨⟨σ', h5, h6⟩, h7⟩, h8⟩ := k p e s m args below meth c T locs C X N S
  exact ⟨u, o, h1, h2, h3, v, L, h4, ⟨⟨σ', hQ _ _ h5, h6⟩, h7⟩, h8⟩
theorem Sp.mono {y : MethodName} {bytes : ByteArray} {maxL : Nat} {ret : Option FieldType} {as : List Value} {Q' : Option Value → Asn → Prop} (hQ : ∀ v σ', Q v σ' → Q' v σ') (k : Sp l Z n0 y bytes maxL ret R as σ Q) : Sp l Z n0 y bytes maxL ret R as σ Q' := by
  intro ws h0 hS p e ha hc hk s m args below hf happ hP hK
  obtain ⟨n, o, h1, h2, h3, v, L, h4, ⟨⟨σ', h5, h6⟩, h7⟩, h8⟩ := k ws h0 hS p e ha hc hk s m args below hf happ hP hK
  exact ⟨n, o, h1, h2, h3, v, L, h4, ⟨⟨σ', hQ _ _ h5, h6⟩, h7⟩, h8⟩
/-! constants, loads, stores -/
theorem W.iconst (v : Int32) {i : Int} (hd : decode B.2.2.1 pc = .ok (.iconst i, 1)) (hp : pc + 1 = pc') (hv : Int32.ofInt i = v) (k : W l Z n0 B R Q cells slots σ pc' ls (.int v :: st)) : W l Z n0 B R Q cells slots σ pc ls st := by
  subst hp hv; exact W.of (fun p e s m args below meth c T locs C X t h => XS.iconst X.here C.1 rfl (hb C.2.1 hd) h) k
theorem W.bipush (v : Int32) {i : Int} (hd : decode B.2.2.1 pc = .ok (.bipush i, 2)) (hp : pc + 2 = pc') (hv : (Int8.ofInt i).toInt32 = v) (k : W l Z n0 B R Q cells slots σ pc' ls (.int v :: st)) : W l Z n0 B R Q cells slots σ pc ls st := by
  subst hp hv; exact W.of (fun p e s m args below meth c T locs C X t h => XS.bipush X.here C.1 rfl (hb C.2.1 hd) h) k
theorem W.sipush (v : Int32) {i : Int} (hd : decode B.2.2.1 pc = .ok (.sipush i, 3)) (hp : pc + 3 = pc') (hv : (Int16.ofInt i).toInt32 = v) (k : W l Z n0 B R Q cells slots σ pc' ls (.int v :: st)) : W l Z n0 B R Q cells slots σ pc ls st := by
  subst hp hv; exact W.of (fun p e s m args below meth c T locs C X t h => XS.sipush X.here C.1 rfl (hb C.2.1 hd) h) k
theorem W.lconst (v : Int64) {i : Fin 2} (hd : decode B.2.2.1 pc = .ok (.lconst i, 1)) (hp : pc + 1 = pc') (hv : Int64.ofNat i = v) (k : W l Z n0 B R Q cells slots σ pc' ls (.long v :: st)) : W l Z n0 B R Q cells slots σ pc ls st := by
  subst hp hv; exact W.of (fun p e s m args below meth c T locs C X t h => XT.lconst X.here C.1 rfl (hb C.2.1 hd) h) k
theorem W.aconstNull (hd : decode B.2.2.1 pc = .ok (.aconst_null, 1)) (hp : pc + 1 = pc') (k : W l Z n0 B R Q cells slots σ pc' ls (.null :: st)) : W l Z n0 B R Q cells slots σ pc ls st := by
  subst hp; exact W.of (fun p e s m args below meth c T locs C X t h => XS.aconstNull X.here C.1 rfl (hb C.2.1 hd) h) k
theorem W.ldcI {i : Nat} {v : Int32} (hd : decode B.2.2.1 pc = .ok (.ldc i, 2)) (w : (Jvm.Cond.constant B.1 i v).before a0 Z = true) (hp : pc + 2 = pc') (k : W l Z n0 B R Q cells slots σ pc' ls (.int v :: st)) : W l Z n0 B R Q cells slots σ pc ls st := by
  subst hp; exact W.of (fun p e s m args below meth c T locs C X t h => X.ldcI C.1 C.2.2.2.1 (mvT C.2.2.2.2.2.1.wide w) rfl (hb C.2.1 hd) h) k
theorem W.ldc2J {i : Nat} {v : Int64} (hd : decode B.2.2.1 pc = .ok (.ldc2_w i, 3)) (w : (Jvm.Cond.constantLong B.1 i v).before a0 Z = true) (hp : pc + 3 = pc') (k : W l Z n0 B R Q cells slots σ pc' ls (.long v :: st)) : W l Z n0 B R Q cells slots σ pc ls st := by
  subst hp; exact W.of (fun p e s m args below meth c T locs C X t h => X.ldc2J C.1 C.2.2.2.1 (mvT C.2.2.2.2.2.1.wide w) rfl (hb C.2.1 hd) h) k
theorem W.iloadN {i : Fin 4} {v : Int32} (hd : decode B.2.2.1 pc = .ok (.iload_n i, 1)) (hp : pc + 1 = pc') (hl : ls[i.val]? = some (.val (.int v))) (k : W l Z n0 B R Q cells slots σ pc' ls (.int v :: st)) : W l Z n0 B R Q cells slots σ pc ls st := by
  subst hp; exact W.of (fun p e s m args below meth c T locs C X t h => XS.iloadN X.here C.1 rfl (hb C.2.1 hd) hl h) k
theorem W.iload {i : Nat} {v : Int32} (hd : decode B.2.2.1 pc = .ok (.iload i, 2)) (hp : pc + 2 = pc') (hl : ls[i]? = some (.val (.int v))) (k : W l Z n0 B R Q cells slots σ pc' ls (.int v :: st)) : W l Z n0 B R Q cells slots σ pc ls st := by
  subst hp; exact W.of (fun p e s m args below meth c T locs C X t h => XS.iload X.here C.1 rfl (hb C.2.1 hd) hl h) k
theorem W.lloadN {i : Fin 4} {v : Int64} (hd : decode B.2.2.1 pc = .ok (.lload_n i, 1)) (hp : pc + 1 = pc') (hl : ls[i.val]? = some (.val (.long v))) (k : W l Z n0 B R Q cells slots σ pc' ls (.long v :: st)) : W l Z n0 B R Q cells slots σ pc ls st := by
  subst hp; exact W.of (fun p e s m args below meth c T locs C X t h => XT.lloadN X.here C.1 rfl (hb C.2.1 hd) hl h) k
theorem W.lload {i : Nat} {v : Int64} (hd : decode B.2.2.1 pc = .ok (.lload i, 2)) (hp : pc + 2 = pc') (hl : ls[i]? = some (.val (.long v))) (k : W l Z n0 B R Q cells slots σ pc' ls (.long v :: st)) : W l Z n0 B R Q cells slots σ pc ls st := by
  subst hp; exact W.of (fun p e s m args below meth c T locs C X t h => XT.lload X.here C.1 rfl (hb C.2.1 hd) hl h) k
theorem W.aloadN {i : Fin 4} {v : Value} (hd : decode B.2.2.1 pc = .ok (.aload_n i, 1)) (hp : pc + 1 = pc') (hl : ls[i.val]? = some (.val v)) (hv : v.isRef = true) (k : W l Z n0 B R Q cells slots σ pc' ls (v :: st)) : W l Z n0 B R Q cells slots σ pc ls st := by
  subst hp; exact W.of (fun p e s m args below meth c T locs C X t h => XS.aloadN X.here C.1 rfl (hb C.2.1 hd) hl hv h) k
theorem W.aload {i : Nat} {v : Value} (hd : decode B.2.2.1 pc = .ok (.aload i, 2)) (hp : pc + 2 = pc') (hl : ls[i]? = some (.val v)) (hv : v.isRef = true) (k : W l Z n0 B R Q cells slots σ pc' ls (v :: st)) : W l Z n0 B R Q cells slots σ pc ls st := by
  subst hp; exact W.of (fun p e s m args below meth c T locs C X t h => XS.aload X.here C.1 rfl (hb C.2.1 hd) hl hv h) k
theorem W.istoreN (ls' : Array Slot) {i : Fin 4} {v : Int32} (hd : decode B.2.2.1 pc = .ok (.istore_n i, 1)) (hp : pc + 1 = pc') (hl : storeLocals ls i.val (.int v) = some ls') (k : W l Z n0 B R Q cells slots σ pc' ls' st) : W l Z n0 B R Q cells slots σ pc ls (.int v :: st) := by
  subst hp; exact W.of (fun p e s m args below meth c T locs C X t h => XS.istoreN X.here C.1 rfl (hb C.2.1 hd) rfl hl h) k
theorem W.istore (ls' : Array Slot) {i : Nat} {v : Int32} (hd : decode B.2.2.1 pc = .ok (.istore i, 2)) (hp : pc + 2 = pc') (hl : storeLocals ls i (.int v) = some ls') (k : W l Z n0 B R Q cells slots σ pc' ls' st) : W l Z n0 B R Q cells slots σ pc ls (.int v :: st) := by
  subst hp; exact W.of (fun p e s m args below meth c T locs C X t h => XS.istore X.here C.1 rfl (hb C.2.1 hd) rfl hl h) k
theorem W.lstoreN (ls' : Array Slot) {i : Fin 4} {v : Int64} (hd : decode B.2.2.1 pc = .ok (.lstore_n i, 1)) (hp : pc + 1 = pc') (hl : storeLocals ls i.val (.long v) = some ls') (k : W l Z n0 B R Q cells slots σ pc' ls' st) : W l Z n0 B R Q cells slots σ pc ls (.long v :: st) := by
  subst hp; exact W.of (fun p e s m args below meth c T locs C X t h => XT.lstoreN X.here C.1 rfl (hb C.2.1 hd) rfl hl h) k
theorem W.lstore (ls' : Array Slot) {i : Nat} {v : Int64} (hd : decode B.2.2.1 pc = .ok (.lstore i, 2)) (hp : pc + 2 = pc') (hl : storeLocals ls i (.long v) = some ls') (k : W l Z n0 B R Q cells slots σ pc' ls' st) : W l Z n0 B R Q cells slots σ pc ls (.long v :: st) := by
  subst hp; exact W.of (fun p e s m args below meth c T locs C X t h => XT.lstore X.here C.1 rfl (hb C.2.1 hd) rfl hl h) k
theorem W.astoreN (ls' : Array Slot) {i : Fin 4} {v : Value} (hd : decode B.2.2.1 pc = .ok (.astore_n i, 1)) (hp : pc + 1 = pc') (hv : v.isRef = true) (hl : storeLocals ls i.val v = some ls') (k : W l Z n0 B R Q cells slots σ pc' ls' st) : W l Z n0 B R Q cells slots σ pc ls (v :: st) := by
  subst hp; exact W.of (fun p e s m args below meth c T locs C X t h => XS.astoreN X.here C.1 rfl (hb C.2.1 hd) rfl hv hl h) k
theorem W.astore (ls' : Array Slot) {i : Nat} {v : Value} (hd : decode B.2.2.1 pc = .ok (.astore i, 2)) (hp : pc + 2 = pc') (hv : v.isRef = true) (hl : storeLocals ls i v = some ls') (k : W l Z n0 B R Q cells slots σ pc' ls' st) : W l Z n0 B R Q cells slots σ pc ls (v :: st) := by
  subst hp; exact W.of (fun p e s m args below meth c T locs C X t h => XS.astore X.here C.1 rfl (hb C.2.1 hd) rfl hv hl h) k
theorem W.iinc (ls' : Array Slot) {i : Nat} {cst : Int} {x : Int32} (v y : Int32) (hd : decode B.2.2.1 pc = .ok (.iinc i cst, 3)) (hp : pc + 3 = pc') (hv : Int32.ofInt cst = v) (hx : ls[i]? = some (.val (.int x))) (hy : x + v = y) (hl : storeLocals ls i (.int y) = some ls') (k : W l Z n0 B R Q cells slots σ pc' ls' st) : W l Z n0 B R Q cells slots σ pc ls st := by
  subst hp hv hy; exact W.of (fun p e s m args below meth c T locs C X t h => XS.iinc X.here C.1 rfl (hb C.2.1 hd) hx hl h) k
theorem W.topJ {x : Int64} (y : Int64) (h : x = y) (k : W l Z n0 B R Q cells slots σ pc ls (.long y :: st)) : W l Z n0 B R Q cells slots σ pc ls (.long x :: st) := h ▸ k
theorem W.topI {x : Int32} (y : Int32) (h : x = y) (k : W l Z n0 B R Q cells slots σ pc ls (.int y :: st)) : W l Z n0 B R Q cells slots σ pc ls (.int x :: st) := h ▸ k
/-! arithmetic -/
theorem W.iadd {x : Int32} {y : Int32} (hd : decode B.2.2.1 pc = .ok (.iadd, 1)) (hp : pc + 1 = pc') (k : W l Z n0 B R Q cells slots σ pc' ls (.int (x + y) :: st)) : W l Z n0 B R Q cells slots σ pc ls (.int y :: .int x :: st) := by
  subst hp; exact W.of (fun p e s m args below meth c T locs C X t h => XS.iadd X.here C.1 rfl (hb C.2.1 hd) rfl h) k
theorem W.isub {x : Int32} {y : Int32} (hd : decode B.2.2.1 pc = .ok (.isub, 1)) (hp : pc + 1 = pc') (k : W l Z n0 B R Q cells slots σ pc' ls (.int (x - y) :: st)) : W l Z n0 B R Q cells slots σ pc ls (.int y :: .int x :: st) := by
  subst hp; exact W.of (fun p e s m args below meth c T locs C X t h => XS.isub X.here C.1 rfl (hb C.2.1 hd) rfl h) k
theorem W.imul {x : Int32} {y : Int32} (hd : decode B.2.2.1 pc = .ok (.imul, 1)) (hp : pc + 1 = pc') (k : W l Z n0 B R Q cells slots σ pc' ls (.int (x * y) :: st)) : W l Z n0 B R Q cells slots σ pc ls (.int y :: .int x :: st) := by
  subst hp; exact W.of (fun p e s m args below meth c T locs C X t h => XS.imul X.here C.1 rfl (hb C.2.1 hd) rfl h) k
theorem W.iand {x : Int32} {y : Int32} (hd : decode B.2.2.1 pc = .ok (.iand, 1)) (hp : pc + 1 = pc') (k : W l Z n0 B R Q cells slots σ pc' ls (.int (x &&& y) :: st)) : W l Z n0 B R Q cells slots σ pc ls (.int y :: .int x :: st) := by
  subst hp; exact W.of (fun p e s m args below meth c T locs C X t h => XS.iand X.here C.1 rfl (hb C.2.1 hd) rfl h) k
theorem W.ior {x : Int32} {y : Int32} (hd : decode B.2.2.1 pc = .ok (.ior, 1)) (hp : pc + 1 = pc') (k : W l Z n0 B R Q cells slots σ pc' ls (.int (x ||| y) :: st)) : W l Z n0 B R Q cells slots σ pc ls (.int y :: .int x :: st) := by
  subst hp; exact W.of (fun p e s m args below meth c T locs C X t h => XT.ior X.here C.1 rfl (hb C.2.1 hd) rfl h) k
theorem W.ixor {x : Int32} {y : Int32} (hd : decode B.2.2.1 pc = .ok (.ixor, 1)) (hp : pc + 1 = pc') (k : W l Z n0 B R Q cells slots σ pc' ls (.int (x ^^^ y) :: st)) : W l Z n0 B R Q cells slots σ pc ls (.int y :: .int x :: st) := by
  subst hp; exact W.of (fun p e s m args below meth c T locs C X t h => XT.ixor X.here C.1 rfl (hb C.2.1 hd) rfl h) k
theorem W.ishl {x : Int32} {y : Int32} (hd : decode B.2.2.1 pc = .ok (.ishl, 1)) (hp : pc + 1 = pc') (k : W l Z n0 B R Q cells slots σ pc' ls (.int (x <<< (y &&& 31)) :: st)) : W l Z n0 B R Q cells slots σ pc ls (.int y :: .int x :: st) := by
  subst hp; exact W.of (fun p e s m args below meth c T locs C X t h => XT.ishl X.here C.1 rfl (hb C.2.1 hd) rfl h) k
theorem W.ishr {x : Int32} {y : Int32} (hd : decode B.2.2.1 pc = .ok (.ishr, 1)) (hp : pc + 1 = pc') (k : W l Z n0 B R Q cells slots σ pc' ls (.int (x >>> (y &&& 31)) :: st)) : W l Z n0 B R Q cells slots σ pc ls (.int y :: .int x :: st) := by
  subst hp; exact W.of (fun p e s m args below meth c T locs C X t h => XT.ishr X.here C.1 rfl (hb C.2.1 hd) rfl h) k
theorem W.iushr {x : Int32} {y : Int32} (hd : decode B.2.2.1 pc = .ok (.iushr, 1)) (hp : pc + 1 = pc') (k : W l Z n0 B R Q cells slots σ pc' ls (.int (XT.ushr x y) :: st)) : W l Z n0 B R Q cells slots σ pc ls (.int y :: .int x :: st) := by
  subst hp; exact W.of (fun p e s m args below meth c T locs C X t h => XT.iushr X.here C.1 rfl (hb C.2.1 hd) rfl h) k
theorem W.ladd {x : Int64} {y : Int64} (hd : decode B.2.2.1 pc = .ok (.ladd, 1)) (hp : pc + 1 = pc') (k : W l Z n0 B R Q cells slots σ pc' ls (.long (x + y) :: st)) : W l Z n0 B R Q cells slots σ pc ls (.long y :: .long x :: st) := by
  subst hp; exact W.of (fun p e s m args below meth c T locs C X t h => XT.ladd X.here C.1 rfl (hb C.2.1 hd) rfl h) k
theorem W.lsub {x : Int64} {y : Int64} (hd : decode B.2.2.1 pc = .ok (.lsub, 1)) (hp : pc + 1 = pc') (k : W l Z n0 B R Q cells slots σ pc' ls (.long (x - y) :: st)) : W l Z n0 B R Q cells slots σ pc ls (.long y :: .long x :: st) := by
  subst hp; exact W.of (fun p e s m args below meth c T locs C X t h => XT.lsub X.here C.1 rfl (hb C.2.1 hd) rfl h) k
theorem W.lmul {x : Int64} {y : Int64} (hd : decode B.2.2.1 pc = .ok (.lmul, 1)) (hp : pc + 1 = pc') (k : W l Z n0 B R Q cells slots σ pc' ls (.long (x * y) :: st)) : W l Z n0 B R Q cells slots σ pc ls (.long y :: .long x :: st) := by
  subst hp; exact W.of (fun p e s m args below meth c T locs C X t h => XT.lmul X.here C.1 rfl (hb C.2.1 hd) rfl h) k
theorem W.land {x : Int64} {y : Int64} (hd : decode B.2.2.1 pc = .ok (.land, 1)) (hp : pc + 1 = pc') (k : W l Z n0 B R Q cells slots σ pc' ls (.long (x &&& y) :: st)) : W l Z n0 B R Q cells slots σ pc ls (.long y :: .long x :: st) := by
  subst hp; exact W.of (fun p e s m args below meth c T locs C X t h => XT.land X.here C.1 rfl (hb C.2.1 hd) rfl h) k
theorem W.lor {x : Int64} {y : Int64} (hd : decode B.2.2.1 pc = .ok (.lor, 1)) (hp : pc + 1 = pc') (k : W l Z n0 B R Q cells slots σ pc' ls (.long (x ||| y) :: st)) : W l Z n0 B R Q cells slots σ pc ls (.long y :: .long x :: st) := by
  subst hp; exact W.of (fun p e s m args below meth c T locs C X t h => XT.lor X.here C.1 rfl (hb C.2.1 hd) rfl h) k
theorem W.lxor {x : Int64} {y : Int64} (hd : decode B.2.2.1 pc = .ok (.lxor, 1)) (hp : pc + 1 = pc') (k : W l Z n0 B R Q cells slots σ pc' ls (.long (x ^^^ y) :: st)) : W l Z n0 B R Q cells slots σ pc ls (.long y :: .long x :: st) := by
  subst hp; exact W.of (fun p e s m args below meth c T locs C X t h => XT.lxor X.here C.1 rfl (hb C.2.1 hd) rfl h) k
theorem W.lushr {x : Int64} {y : Int32} (hd : decode B.2.2.1 pc = .ok (.lushr, 1)) (hp : pc + 1 = pc') (k : W l Z n0 B R Q cells slots σ pc' ls (.long (XT.ushrL x y) :: st)) : W l Z n0 B R Q cells slots σ pc ls (.int y :: .long x :: st) := by
  subst hp; exact W.of (fun p e s m args below meth c T locs C X t h => XT.lushr X.here C.1 rfl (hb C.2.1 hd) rfl h) k
theorem W.lshl {x : Int64} {y : Int32} (hd : decode B.2.2.1 pc = .ok (.lshl, 1)) (hp : pc + 1 = pc') (k : W l Z n0 B R Q cells slots σ pc' ls (.long (x <<< (y.toInt64 &&& 63)) :: st)) : W l Z n0 B R Q cells slots σ pc ls (.int y :: .long x :: st) := by
  subst hp; exact W.of (fun p e s m args below meth c T locs C X t h => XT.lshl X.here C.1 rfl (hb C.2.1 hd) rfl h) k
theorem W.lcmp {x : Int64} {y : Int64} (hd : decode B.2.2.1 pc = .ok (.lcmp, 1)) (hp : pc + 1 = pc') (k : W l Z n0 B R Q cells slots σ pc' ls (.int (XT.cmpL x y) :: st)) : W l Z n0 B R Q cells slots σ pc ls (.long y :: .long x :: st) := by
  subst hp; exact W.of (fun p e s m args below meth c T locs C X t h => XT.lcmp X.here C.1 rfl (hb C.2.1 hd) rfl h) k
theorem W.i2l {x : Int32} (hd : decode B.2.2.1 pc = .ok (.i2l, 1)) (hp : pc + 1 = pc') (k : W l Z n0 B R Q cells slots σ pc' ls (.long (x.toInt64) :: st)) : W l Z n0 B R Q cells slots σ pc ls (.int x :: st) := by
  subst hp; exact W.of (fun p e s m args below meth c T locs C X t h => XT.i2l X.here C.1 rfl (hb C.2.1 hd) rfl h) k
theorem W.l2i {x : Int64} (hd : decode B.2.2.1 pc = .ok (.l2i, 1)) (hp : pc + 1 = pc') (k : W l Z n0 B R Q cells slots σ pc' ls (.int (x.toInt32) :: st)) : W l Z n0 B R Q cells slots σ pc ls (.long x :: st) := by
  subst hp; exact W.of (fun p e s m args below meth c T locs C X t h => XT.l2i X.here C.1 rfl (hb C.2.1 hd) rfl h) k
theorem W.i2b {x : Int32} (hd : decode B.2.2.1 pc = .ok (.i2b, 1)) (hp : pc + 1 = pc') (k : W l Z n0 B R Q cells slots σ pc' ls (.int (x.toInt8.toInt32) :: st)) : W l Z n0 B R Q cells slots σ pc ls (.int x :: st) := by
  subst hp; exact W.of (fun p e s m args below meth c T locs C X t h => XT.i2b X.here C.1 rfl (hb C.2.1 hd) rfl h) k
theorem W.i2c {x : Int32} (hd : decode B.2.2.1 pc = .ok (.i2c, 1)) (hp : pc + 1 = pc') (k : W l Z n0 B R Q cells slots σ pc' ls (.int (x.toUInt32.toUInt16.toUInt32.toInt32) :: st)) : W l Z n0 B R Q cells slots σ pc ls (.int x :: st) := by
  subst hp; exact W.of (fun p e s m args below meth c T locs C X t h => XT.i2c X.here C.1 rfl (hb C.2.1 hd) rfl h) k
theorem W.idiv {x y : Int32} (hd : decode B.2.2.1 pc = .ok (.idiv, 1)) (hp : pc + 1 = pc') (hy : y ≠ 0) (k : W l Z n0 B R Q cells slots σ pc' ls (.int (x / y) :: st)) : W l Z n0 B R Q cells slots σ pc ls (.int y :: .int x :: st) := by
  subst hp; exact W.of (fun p e s m args below meth c T locs C X t h => XS.idiv X.here C.1 rfl (hb C.2.1 hd) rfl hy h) k
theorem W.irem {x y : Int32} (hd : decode B.2.2.1 pc = .ok (.irem, 1)) (hp : pc + 1 = pc') (hy : y ≠ 0) (k : W l Z n0 B R Q cells slots σ pc' ls (.int (x % y) :: st)) : W l Z n0 B R Q cells slots σ pc ls (.int y :: .int x :: st) := by
  subst hp; exact W.of (fun p e s m args below meth c T locs C X t h => iremM X C.1 rfl (hb C.2.1 hd) rfl hy h) k
theorem W.dup {x : Value} (hd : decode B.2.2.1 pc = .ok (.dup, 1)) (hp : pc + 1 = pc') (hc : x.category = 1) (k : W l Z n0 B R Q cells slots σ pc' ls (x :: x :: st)) : W l Z n0 B R Q cells slots σ pc ls (x :: st) := by
  subst hp; exact W.of (fun p e s m args below meth c T locs C X t h => XS.dup X.here C.1 rfl (hb C.2.1 hd) rfl hc h) k
theorem W.pop {x : Value} (hd : decode B.2.2.1 pc = .ok (.pop, 1)) (hp : pc + 1 = pc') (hc : x.category = 1) (k : W l Z n0 B R Q cells slots σ pc' ls st) : W l Z n0 B R Q cells slots σ pc ls (x :: st) := by
  subst hp; exact W.of (fun p e s m args below meth c T locs C X t h => XT.pop X.here C.1 rfl (hb C.2.1 hd) rfl hc h) k
theorem W.dupX1 {x y : Value} (hd : decode B.2.2.1 pc = .ok (.dup_x1, 1)) (hp : pc + 1 = pc') (hc : x.category = 1) (hc' : y.category = 1) (k : W l Z n0 B R Q cells slots σ pc' ls (x :: y :: x :: st)) : W l Z n0 B R Q cells slots σ pc ls (x :: y :: st) := by
  subst hp; exact W.of (fun p e s m args below meth c T locs C X t h => XT.dupX1 X.here C.1 rfl (hb C.2.1 hd) rfl hc hc' h) k
/-! branches -/
theorem W.goto {o : Int} (hd : decode B.2.2.1 pc = .ok (.goto o, 3)) (ho : 0 ≤ (pc : Int) + o) (hp : ((pc : Int) + o).toNat = pc') (k : W l Z n0 B R Q cells slots σ pc' ls st) : W l Z n0 B R Q cells slots σ pc ls st :=
  W.of (fun p e s m args below meth c T locs C X t h => XS.goto X.here C.1 rfl rfl (hb C.2.1 hd) ho hp h) k
theorem W.ifY {cd : ClassFile.Cond} {x : Int32} {o : Int} (hd : decode B.2.2.1 pc = .ok (.ifCond cd o, 3)) (hc : ifCond.holds cd x = true) (ho : 0 ≤ (pc : Int) + o) (hp : ((pc : Int) + o).toNat = pc') (k : W l Z n0 B R Q cells slots σ pc' ls st) : W l Z n0 B R Q cells slots σ pc ls (.int x :: st) :=
  W.of (fun p e s m args below meth c T locs C X t h => XS.ifYes X.here C.1 rfl rfl (hb C.2.1 hd) rfl hc ho hp h) k
theorem W.ifN {cd : ClassFile.Cond} {x : Int32} {o : Int} (hd : decode B.2.2.1 pc = .ok (.ifCond cd o, 3)) (hc : ifCond.holds cd x = false) (hp : pc + 3 = pc') (k : W l Z n0 B R Q cells slots σ pc' ls st) : W l Z n0 B R Q cells slots σ pc ls (.int x :: st) := by
  subst hp; exact W.of (fun p e s m args below meth c T locs C X t h => XS.ifNo X.here C.1 rfl (hb C.2.1 hd) rfl hc h) k
theorem W.icmpY {cd : ClassFile.Cond} {x y : Int32} {o : Int} (hd : decode B.2.2.1 pc = .ok (.if_icmp cd o, 3)) (hc : if_icmp.holds cd x y = true) (ho : 0 ≤ (pc : Int) + o) (hp : ((pc : Int) + o).toNat = pc') (k : W l Z n0 B R Q cells slots σ pc' ls st) : W l Z n0 B R Q cells slots σ pc ls (.int y :: .int x :: st) :=
  W.of (fun p e s m args below meth c T locs C X t h => XS.icmpYes X.here C.1 rfl rfl (hb C.2.1 hd) rfl hc ho hp h) k
theorem W.icmpN {cd : ClassFile.Cond} {x y : Int32} {o : Int} (hd : decode B.2.2.1 pc = .ok (.if_icmp cd o, 3)) (hc : if_icmp.holds cd x y = false) (hp : pc + 3 = pc') (k : W l Z n0 B R Q cells slots σ pc' ls st) : W l Z n0 B R Q cells slots σ pc ls (.int y :: .int x :: st) := by
  subst hp; exact W.of (fun p e s m args below meth c T locs C X t h => XS.icmpNo X.here C.1 rfl (hb C.2.1 hd) rfl hc h) k
theorem W.acmpY {cd : ClassFile.ACond} {x y : Value} {o : Int} (hd : decode B.2.2.1 pc = .ok (.if_acmp cd o, 3)) (hx : x.isRef = true) (hy : y.isRef = true) (hc : XT.acmp cd x y = true) (ho : 0 ≤ (pc : Int) + o) (hp : ((pc : Int) + o).toNat = pc') (k : W l Z n0 B R Q cells slots σ pc' ls st) : W l Z n0 B R Q cells slots σ pc ls (y :: x :: st) :=
  W.of (fun p e s m args below meth c T locs C X t h => XT.acmpYes X.here C.1 rfl rfl (hb C.2.1 hd) rfl hx hy hc ho hp h) k
theorem W.acmpN {cd : ClassFile.ACond} {x y : Value} {o : Int} (hd : decode B.2.2.1 pc = .ok (.if_acmp cd o, 3)) (hx : x.isRef = true) (hy : y.isRef = true) (hc : XT.acmp cd x y = false) (hp : pc + 3 = pc') (k : W l Z n0 B R Q cells slots σ pc' ls st) : W l Z n0 B R Q cells slots σ pc ls (y :: x :: st) := by
  subst hp; exact W.of (fun p e s m args below meth c T locs C X t h => XT.acmpNo X.here C.1 rfl (hb C.2.1 hd) rfl hx hy hc h) k
theorem W.nullY {o : Int} (hd : decode B.2.2.1 pc = .ok (.ifnull o, 3)) (ho : 0 ≤ (pc : Int) + o) (hp : ((pc : Int) + o).toNat = pc') (k : W l Z n0 B R Q cells slots σ pc' ls st) : W l Z n0 B R Q cells slots σ pc ls (.null :: st) :=
  W.of (fun p e s m args below meth c T locs C X t h => XS.ifnullYes X.here C.1 rfl rfl (hb C.2.1 hd) rfl ho hp h) k
theorem W.nullN {a : Addr} {o : Int} (hd : decode B.2.2.1 pc = .ok (.ifnull o, 3)) (hp : pc + 3 = pc') (k : W l Z n0 B R Q cells slots σ pc' ls st) : W l Z n0 B R Q cells slots σ pc ls (.ref a :: st) := by
  subst hp; exact W.of (fun p e s m args below meth c T locs C X t h => XS.ifnullNo X.here C.1 rfl (hb C.2.1 hd) rfl h) k
theorem W.nonnullY {a : Addr} {o : Int} (hd : decode B.2.2.1 pc = .ok (.ifnonnull o, 3)) (ho : 0 ≤ (pc : Int) + o) (hp : ((pc : Int) + o).toNat = pc') (k : W l Z n0 B R Q cells slots σ pc' ls st) : W l Z n0 B R Q cells slots σ pc ls (.ref a :: st) :=
  W.of (fun p e s m args below meth c T locs C X t h => XT.ifnonnullYes X.here C.1 rfl rfl (hb C.2.1 hd) rfl ho hp h) k
theorem W.nonnullN {o : Int} (hd : decode B.2.2.1 pc = .ok (.ifnonnull o, 3)) (hp : pc + 3 = pc') (k : W l Z n0 B R Q cells slots σ pc' ls st) : W l Z n0 B R Q cells slots σ pc ls (.null :: st) := by
  subst hp; exact W.of (fun p e s m args below meth c T locs C X t h => XT.ifnonnullNo X.here C.1 rfl (hb C.2.1 hd) rfl h) k
/-! returns -/
theorem W.fin {v : Option Value} (hv : B.2.2.2.2.1 = none → v = none) (hc : cells ≤ R.cells) (hs : slots ≤ R.slots) (hQ : Q v σ)
    (hstep : ∀ (p : Program) (e : Env) (s : State) (m : MethodId) (args : Array Value) (below : List Frame) (meth : Method) (c : Code) (T : State) (locs : List Loc), Cx p s m meth c Z B → Stand p l e R s m args below meth c T locs cells slots → ∀ fs, (∀ (f : JFrame) (acts : List Action), f.method = m → f.locked = none → f.entered = [] → (doReturn e (T.setTop f) acts v).1 = T.setFrames fs) → Steps p.tables e below (T.setTop (mkF m pc ls st)) (T.setFrames fs)) :
    W l Z n0 B R Q cells slots σ pc ls st := by
  intro p e s m args below meth c T locs C X N S
  obtain ⟨fs, hr, hrun, hended, hW, hsame⟩ := X.leave (v := v) (fun h => hv (C.2.2.2.2.2.2.1.symm.trans h)) C.2.2.2.2.2.2.2.1
  exact ⟨_, _, hstep p e s m args below meth c T locs C X fs hr, hrun, hended, v, locs, rfl, ⟨⟨σ, hQ, S⟩, N⟩, ⟨_, rfl⟩, hW, hsame.mono hc hs⟩
theorem W.retN {t : FieldType} {z : Int32} (z' : Int32) (hd : decode B.2.2.1 pc = .ok (.ireturn, 1)) (hr : B.2.2.2.2.1 = some t) (ht : t = .boolean ∨ t = .byte ∨ t = .char ∨ t = .short) (hz : nar t z = z') (hc : cells ≤ R.cells) (hs : slots ≤ R.slots) (hQ : Q (some (.int z')) σ) : W l Z n0 B R Q cells slots σ pc ls (.int z :: st) := by
  subst hz; exact W.fin (fun h => by rw [hr] at h; cases h) hc hs hQ (fun p e s m args below meth c T locs C X fs h => RoadKit.retN X C.1 (C.2.2.2.2.2.2.1.trans hr) ht (hb C.2.1 hd) h)
theorem W.retI {z : Int32} (hd : decode B.2.2.1 pc = .ok (.ireturn, 1)) (hr : B.2.2.2.2.1 = some .int) (hc : cells ≤ R.cells) (hs : slots ≤ R.slots) (hQ : Q (some (.int z)) σ) : W l Z n0 B R Q cells slots σ pc ls (.int z :: st) :=
  W.fin (fun h => by rw [hr] at h; cases h) hc hs hQ (fun p e s m args below meth c T locs C X fs h => retOut X C.1 (t := .int) (C.2.2.2.2.2.2.1.trans hr) rfl (Or.inl ⟨rfl, Or.inl rfl, _, rfl⟩) (hb C.2.1 hd) h)
theorem W.retJ {z : Int64} (hd : decode B.2.2.1 pc = .ok (.lreturn, 1)) (hr : B.2.2.2.2.1 = some .long) (hc : cells ≤ R.cells) (hs : slots ≤ R.slots) (hQ : Q (some (.long z)) σ) : W l Z n0 B R Q cells slots σ pc ls (.long z :: st) :=
  W.fin (fun h => by rw [hr] at h; cases h) hc hs hQ (fun p e s m args below meth c T locs C X fs h => retOut X C.1 (t := .long) (C.2.2.2.2.2.2.1.trans hr) rfl (Or.inr (Or.inl ⟨rfl, rfl, _, rfl⟩)) (hb C.2.1 hd) h)
theorem W.retA {t : FieldType} {v : Value} (hd : decode B.2.2.1 pc = .ok (.areturn, 1)) (hr : B.2.2.2.2.1 = some t) (ht : t.isReference = true) (hn : narrow t v = v) (hv : v.isRef = true) (hc : cells ≤ R.cells) (hs : slots ≤ R.slots) (hQ : Q (some v) σ) : W l Z n0 B R Q cells slots σ pc ls (v :: st) :=
  W.fin (fun h => by rw [hr] at h; cases h) hc hs hQ (fun p e s m args below meth c T locs C X fs h => retOut X C.1 (t := t) (C.2.2.2.2.2.2.1.trans hr) hn (Or.inr (Or.inr (Or.inr (Or.inr ⟨rfl, ht, hv⟩)))) (hb C.2.1 hd) h)
theorem W.retV (hd : decode B.2.2.1 pc = .ok (.return_, 1)) (hr : B.2.2.2.2.1 = none) (hc : cells ≤ R.cells) (hs : slots ≤ R.slots) (hQ : Q none σ) : W l Z n0 B R Q cells slots σ pc ls [] :=
  W.fin (fun _ => rfl) hc hs hQ (fun p e s m args below meth c T locs C X fs h => X.returnOut C.1 (C.2.2.2.2.2.2.1.trans hr) (hb C.2.1 hd) h)
/-! calls -/
theorem W.back {y : MethodName} {bytes : ByteArray} {maxL : Nat} {ret : Option FieldType} {rm : Room} {as : List Value} {Qc : Option Value → Asn → Prop} {len Wd : Nat} (hS : Sp l Z n0 y bytes maxL ret rm as σ Qc) {h : Heap} (hsep : Sep Z n0 h σ)
    {p : Program} {e : Env} {below : List Frame} {s : State} {args : Array Value} (hZ : Z.WarmedH s.vm) (wc : (Jvm.Cond.code y bytes maxL ret).before a0 Z = true) (wz : (Jvm.Cond.initialized y.cls).before a0 Z = true) (hf : rm.frames + 1 ≤ R.frames) (hl : Wd + (maxL + 11) + rm.locals ≤ R.locals) :
    Back l R p e below s args y len Wd (fun A a => a = as.toArray ∧ A.U.heap = h ∧ A.cells + rm.cells ≤ R.cells ∧ A.slots + rm.slots ≤ R.slots)
      (fun A _ v B => ∃ L, ((∃ σ', Qc v σ' ∧ Sep Z n0 B.U.heap σ') ∧ Fr n0 L) ∧ B.locs = A.locs ++ L ∧ B.cells = A.cells + rm.cells ∧ B.slots = A.slots + rm.slots) :=
  Back.of_free (bytes := bytes) (maxL := maxL) (ret := ret) (E := fun _ _ o t L k n => k = rm.cells ∧ n = rm.slots ∧ ∃ v, o = .returned v ∧ (∃ σ', Qc v σ' ∧ Sep Z n0 t.heap σ') ∧ Fr n0 L) (hS [] h hsep) hf hl
    (fun m meth c A a Y hp => by
      have hU : Z.Warmed39 A.U.vm := (State.WarmedH.trans hZ Y.warmed).wide
      exact ⟨by show (Jvm.Cond.and _ .tt).before a A.U = true; rw [Cond.before_and, mvT hU wc]; rfl, mvT hU wc, mvT hU wz, hp.2.2.1, hp.2.2.2⟩)
    (fun m meth c A a g mk Y hp => ⟨hp.1, State.WarmedH.trans hZ Y.warmed, hp.2.1⟩) (fun _ _ _ _ _ _ _ _ _ => trivial)
    (fun _ _ _ _ ⟨v, L, q1, q2, q3⟩ => ⟨L, _, _, q3, rfl, rfl, v, q1, q2⟩)
    (fun m meth c A a g mk v t L k n Y hp _ _ ⟨z1, z2, v', z3, z4⟩ => by cases z3; subst z1 z2; exact ⟨L, z4, rfl, rfl, rfl⟩)
theorem W.callS {y : MethodName} {bytes : ByteArray} {maxL : Nat} {ret : Option FieldType} {rm : Room} {as : List Value} {Qc : Option Value → Asn → Prop} {i : Nat} {sg : MethodDescriptor} (hS : Sp l Z n0 y bytes maxL ret rm as σ Qc)
    (hd : decode B.2.2.1 pc = .ok (.invokestatic i, 3)) (w1 : (Jvm.Cond.methodLink B.1 i y).before a0 Z = true) (w2 : (Jvm.Cond.static y).before a0 Z = true) (wz : (Jvm.Cond.initialized y.cls).before a0 Z = true) (wc : (Jvm.Cond.code y bytes maxL ret).before a0 Z = true)
    (hy : y.cls ≠ "java/lang/invoke/MethodHandle" ∧ y.cls ≠ "java/lang/invoke/VarHandle") (hsg : parseMethodDescriptor y.desc = some sg) (hln : as.length = sg.parameters.length) (hst : st = as.reverse ++ rest)
    (hf : rm.frames + 1 ≤ R.frames) (hl : (rest.map fun v => v.category).sum + (maxL + 11) + rm.locals ≤ R.locals) (hc : cells + rm.cells ≤ R.cells) (hs : slots + rm.slots ≤ R.slots) (hsz : ls.size = B.2.2.2.1) (hp : pc + 3 = pc')
    (k : ∀ v σ', Qc v σ' → W l Z n0 B R Q (cells + rm.cells) (slots + rm.slots) σ' pc' ls (v.toList ++ rest)) : W l Z n0 B R Q cells slots σ pc ls st := by
  subst hp
  intro p e s m args below meth c T locs C X N S
  obtain ⟨hx, hby, hml, hown, hnm, hZ, hrt, hlk⟩ := C
  obtain ⟨v, _, ⟨T8, L8, k8, n8⟩, -, X8, ⟨Lc8, ⟨⟨σ', hQ8, hS8⟩, hF8⟩, l8, y8, z8⟩, st8⟩ := Jvm.LawKit.callS X hx (y := y) hown (mvT hZ.wide w1) (mvT hZ.wide w2) (mvT hZ.wide wz) (mvT hZ.wide wc) hy (W.back (a0 := a0) hS S hZ wc wz hf hl) (g := (mkF m pc ls st)) rfl (by rw [hml]; exact hsz) (argsL := as) (rest := rest) (lenOf hsg hln) hst (by show 2 * 0 + _ ≤ _; omega) (hb hby hd) (fun _ _ => ⟨rfl, rfl, hc, hs⟩)
  dsimp only [Pt.U, Pt.locs, Pt.cells, Pt.slots] at X8 l8 y8 z8 st8 hS8
  subst l8 y8 z8
  obtain ⟨u, o, h1, h2⟩ := k v σ' hQ8 p e s m args below meth c T8 _ ⟨hx, hby, hml, hown, hnm, hZ, hrt, hlk⟩ X8 (N.app hF8) hS8
  exact ⟨u, o, st8 _ h1, h2⟩
end Rules
/-! OWN FRAMEWORK, part 2: the heap -/
def ObjP (Z : State) (C : String) (fs : List (String × String × String × Value)) (c : Cell) : Prop :=
  Exa Z #[c] 0 C ∧ (∀ f ∈ fs, Fld Z #[c] 0 f.1 f.2.1 f.2.2.1 f.2.2.2) ∧ fs.Pairwise (fun f f' => RoadKit.slotOf Z f.1 f.2.1 f.2.2.1 ≠ RoadKit.slotOf Z f'.1 f'.2.1 f'.2.2.1)
def IA (Z : State) (ty : FieldType) (xs : List Int32) (c : Cell) : Prop := Z.isArrayOf c ty ∧ c.vm ≠ .unknown ∧ c.slots.toList = xs.map Value.int
def LA (Z : State) (xs : List Int64) (c : Cell) : Prop := Z.isArrayOf c .long ∧ c.vm ≠ .unknown ∧ c.slots.toList = xs.map Value.long
def LaidL (Z : State) (a0 : Array Value) (C : String) : List (String × String × String × Value) → Prop
  | [] => True
  | f :: fs => (Laid Z a0 C f.1 f.2.1 f.2.2.1 ∧ ∃ ty, parseFieldDescriptor f.2.2.1 = some ty ∧ f.2.2.2 = defaultValue ty) ∧ LaidL Z a0 C fs
section Heap
variable {Z : State} {n0 : Nat} {h h' : Heap} {σ σ' : Asn} {a b : Addr} {P P' : Cell → Prop} {i j : Nat} {c : Cell} {C n d : String} {v : Value} {sl : Nat}
theorem fld_out (F : Fld Z #[c] 0 C n d v) (q : h[a]? = some c) : Fld Z h a C n d v := by
  obtain ⟨cell, cf, k, i, f, h1, r⟩ := F
  obtain rfl : c = cell := by simpa using h1
  exact ⟨c, cf, k, i, f, q, r⟩
theorem fld_in (F : Fld Z h a C n d v) (q : h[a]? = some c) : Fld Z #[c] 0 C n d v := by
  obtain ⟨cell, cf, k, i, f, h1, r⟩ := F
  cases q.symm.trans h1
  exact ⟨c, cf, k, i, f, rfl, r⟩
theorem exa_out (F : Exa Z #[c] 0 C) (q : h[a]? = some c) : Exa Z h a C := by
  obtain ⟨cell, k, h1, r⟩ := F
  obtain rfl : c = cell := by simpa using h1
  exact ⟨c, k, q, r⟩
theorem exa_in (F : Exa Z h a C) (q : h[a]? = some c) : Exa Z #[c] 0 C := by
  obtain ⟨cell, k, h1, r⟩ := F
  cases q.symm.trans h1
  exact ⟨c, k, rfl, r⟩
theorem Sep.get (S : Sep Z n0 h σ) (hi : σ[i]? = some (a, P)) : n0 ≤ a ∧ ∃ c : Cell, h[a]? = some c ∧ P c := S.2.1 _ (List.mem_of_getElem? hi)
theorem Sep.ne (S : Sep Z n0 h σ) (hi : σ[i]? = some (a, P)) (hj : σ[j]? = some (b, P')) (hij : i ≠ j) : a ≠ b := by
  have hi' : (σ.map (fun x => x.1))[i]? = some a := by simp [hi]
  have hj' : (σ.map (fun x => x.1))[j]? = some b := by simp [hj]
  obtain ⟨l1, e1⟩ := List.getElem?_eq_some_iff.mp hi'
  obtain ⟨l2, e2⟩ := List.getElem?_eq_some_iff.mp hj'
  have hN := List.pairwise_iff_getElem.mp S.2.2
  rcases Nat.lt_or_gt_of_ne hij with q | q
  · have := hN i j l1 l2 q; rwa [e1, e2] at this
  · have := hN j i l2 l1 q; rw [e1, e2] at this; exact fun z => this z.symm
theorem Sep.lt (S : Sep Z n0 h σ) (hi : σ[i]? = some (a, P)) : a < h.size := by
  obtain ⟨-, c, hc, -⟩ := S.get hi
  exact (Array.getElem?_eq_some_iff.mp hc).1
theorem Sep.set (S : Sep Z n0 h σ) (hi : σ[i]? = some (a, P)) (hW : Wr h h' a sl v) (hP : ∀ c : Cell, h[a]? = some c → P c → P' (c.setSlot sl v)) : Sep Z n0 h' (σ.set i (a, P')) := by
  obtain ⟨hn, c, hc, hp⟩ := S.get hi
  refine ⟨S.1.wr hW hn, ?_, ?_⟩
  · intro x hx
    obtain ⟨j, hj⟩ := List.mem_iff_getElem?.mp hx
    by_cases hij : i = j
    · subst hij
      have hlt := (List.getElem?_eq_some_iff.mp hi).1
      rw [List.getElem?_set_self hlt] at hj
      cases hj
      obtain ⟨c', e1, -, -, -, -, -, e7⟩ := wr_at hW hc
      exact ⟨hn, c.setSlot sl v, by rw [← (e7 rfl).1]; exact e1, hP c hc hp⟩
    · rw [List.getElem?_set_ne hij] at hj
      obtain ⟨xb, xP⟩ := x
      obtain ⟨hn2, c2, hc2, hp2⟩ := S.get hj
      have hne := S.ne hj hi (Ne.symm hij)
      obtain ⟨c', e1, -, -, -, e5, -⟩ := wr_at hW hc2
      exact ⟨hn2, c2, by rw [← e5 hne]; exact e1, hp2⟩
  · have e : (σ.set i (a, P')).map (fun x => x.1) = σ.map (fun x => x.1) := by
      apply List.ext_getElem?
      intro j
      simp only [List.getElem?_map]
      by_cases hij : i = j
      · subst hij
        rw [List.getElem?_set_self (List.getElem?_eq_some_iff.mp hi).1, hi]; rfl
      · rw [List.getElem?_set_ne hij]
    rw [e]; exact S.2.2
theorem Sep.ext (S : Sep Z n0 h σ) (E : Ext h h') : Sep Z n0 h' σ := ⟨S.1.ext E, fun x hx => by obtain ⟨q1, c, q2, q3⟩ := S.2.1 x hx; exact ⟨q1, c, E.2 _ _ q2, q3⟩, S.2.2⟩
theorem Sep.size (S : Sep Z n0 h σ) : n0 ≤ h.size := by rw [← S.1.1]; exact S.1.2.1
theorem Sep.new (S : Sep Z n0 h σ) (E : Ext h h') (hc : h'[h.size]? = some c) (hP : P c) : Sep Z n0 h' ((h.size, P) :: σ) := by
  refine ⟨S.1.ext E, fun x hx => ?_, ?_⟩
  · rcases List.mem_cons.mp hx with rfl | q
    · exact ⟨S.size, c, hc, hP⟩
    · exact (S.ext E).2.1 x q
  · rw [List.map_cons, List.nodup_cons]
    refine ⟨fun q => ?_, S.2.2⟩
    obtain ⟨x, hx, e⟩ := List.mem_map.mp q
    obtain ⟨-, c', hc', -⟩ := S.2.1 x hx
    exact absurd e (Nat.ne_of_lt (Array.getElem?_eq_some_iff.mp hc').1)
theorem Sep.perm (S : Sep Z n0 h σ) (hp : σ.Perm σ') : Sep Z n0 h σ' := ⟨S.1, fun x hx => S.2.1 x (hp.mem_iff.mpr hx), (hp.map (fun x => x.1)).nodup_iff.mp S.2.2⟩
theorem Sep.pull {x : Addr × (Cell → Prop)} (S : Sep Z n0 h σ) (hi : σ[i]? = some x) : Sep Z n0 h (x :: σ.eraseIdx i) := by
  obtain ⟨l1, e1⟩ := List.getElem?_eq_some_iff.mp hi
  subst e1
  refine S.perm ?_
  have e : σ = σ.take i ++ σ[i] :: σ.drop (i + 1) := by rw [← List.drop_eq_getElem_cons l1, List.take_append_drop]
  rw [List.eraseIdx_eq_take_drop_succ]
  conv => lhs; rw [e]
  exact List.perm_middle
theorem Sep.sub (S : Sep Z n0 h σ) (hs : σ'.Sublist σ) : Sep Z n0 h σ' := ⟨S.1, fun x hx => S.2.1 x (hs.subset hx), List.Nodup.sublist (hs.map (fun x => x.1)) S.2.2⟩
theorem ObjP.put {fs : List (String × String × String × Value)} {O nm ds : String} {old : Value} (H : ObjP Z C fs c) (hf : fs[j]? = some (O, nm, ds, old)) (q : h[a]? = some c) (W : Wr h h' a (RoadKit.slotOf Z O nm ds) v) : ObjP Z C (fs.set j (O, nm, ds, v)) (c.setSlot (RoadKit.slotOf Z O nm ds) v) := by
  obtain ⟨h1, h2, h3⟩ := H
  obtain ⟨c', e1, -, -, -, -, -, e7⟩ := wr_at W q
  have q' : h'[a]? = some (c.setSlot (RoadKit.slotOf Z O nm ds) v) := by rw [← (e7 rfl).1]; exact e1
  have hlt := (List.getElem?_eq_some_iff.mp hf).1
  refine ⟨exa_in ((exa_out h1 q).wr W) q', ?_, ?_⟩
  · intro f hfm
    obtain ⟨i, hi⟩ := List.mem_iff_getElem?.mp hfm
    by_cases hij : j = i
    · subst hij
      rw [List.getElem?_set_self hlt] at hi
      cases hi
      exact fld_in ((fld_out (h2 _ (List.mem_of_getElem? hf)) q).same W) q'
    · rw [List.getElem?_set_ne hij] at hi
      refine fld_in ((fld_out (h2 _ (List.mem_of_getElem? hi)) q).other W (Or.inr ?_)) q'
      obtain ⟨l1, r1⟩ := List.getElem?_eq_some_iff.mp hf
      obtain ⟨l2, r2⟩ := List.getElem?_eq_some_iff.mp hi
      have hN := List.pairwise_iff_getElem.mp h3
      rcases Nat.lt_or_gt_of_ne hij with z | z
      · have := hN j i l1 l2 z; rw [r1, r2] at this; exact fun y => this y.symm
      · have := hN i j l2 l1 z; rwa [r1, r2] at this
  · refine List.pairwise_iff_getElem.mpr fun i k hi hk hik => ?_
    have hN := List.pairwise_iff_getElem.mp h3
    have sl_eq : ∀ t (ht : t < (fs.set j (O, nm, ds, v)).length) (ht' : t < fs.length), RoadKit.slotOf Z (fs.set j (O, nm, ds, v))[t].1 (fs.set j (O, nm, ds, v))[t].2.1 (fs.set j (O, nm, ds, v))[t].2.2.1 = RoadKit.slotOf Z fs[t].1 fs[t].2.1 fs[t].2.2.1 := by
      intro t ht ht'
      rw [List.getElem_set]
      split
      · rename_i e; subst e
        have := (List.getElem?_eq_some_iff.mp hf).2
        rw [this]
      · rfl
    have hi' : i < fs.length := by simpa using hi
    have hk' : k < fs.length := by simpa using hk
    rw [sl_eq i hi hi', sl_eq k hk hk']
    exact hN i k hi' hk' hik
theorem laid_mem {a0 : Array Value} : ∀ {fs : List (String × String × String × Value)}, LaidL Z a0 C fs → ∀ f ∈ fs, Laid Z a0 C f.1 f.2.1 f.2.2.1 ∧ ∃ ty, parseFieldDescriptor f.2.2.1 = some ty ∧ f.2.2.2 = defaultValue ty
  | [], _, f, hf => nomatch hf
  | g :: fs, H, f, hf => by
    rcases List.mem_cons.mp hf with rfl | q
    · exact H.1
    · exact laid_mem H.2 f q
theorem laid_pair {a0 : Array Value} {fs : List (String × String × String × Value)} (H : LaidL Z a0 C fs) (hN : (fs.map (fun f => f.2.1)).Nodup) : fs.Pairwise (fun f f' => RoadKit.slotOf Z f.1 f.2.1 f.2.2.1 ≠ RoadKit.slotOf Z f'.1 f'.2.1 f'.2.2.1) := by
  refine List.pairwise_iff_getElem.mpr fun i j hi hj hij => ?_
  obtain ⟨L1, t1, p1, -⟩ := laid_mem H _ (List.getElem_mem hi)
  obtain ⟨L2, t2, p2, -⟩ := laid_mem H _ (List.getElem_mem hj)
  have hn := List.pairwise_iff_getElem.mp hN i j (by simpa using hi) (by simpa using hj) hij
  simp only [List.getElem_map] at hn
  exact RoadKit.slot_ne L1 L2 hn p1 p2
end Heap
section Rules2
variable {l : Launch} {Z : State} {n0 : Nat} {B : Bdy} {R : Room} {Q : Option Value → Asn → Prop} {cells slots : Nat} {σ : Asn} {pc pc' : Nat} {ls ls' : Array Slot} {st st' rest : List Value} {a0 : Array Value}
theorem W.conv {σ' : Asn} (hσ : ∀ h, Sep Z n0 h σ → Sep Z n0 h σ') (k : W l Z n0 B R Q cells slots σ' pc ls st) : W l Z n0 B R Q cells slots σ pc ls st :=
  fun p e s m args below meth c T locs C X N S => k p e s m args below meth c T locs C X N (hσ _ S)
theorem W.pull (τ : Asn) (i : Nat) {x : Addr × (Cell → Prop)} (hi : σ[i]? = some x) (hτ : σ.eraseIdx i = τ) (k : W l Z n0 B R Q cells slots (x :: τ) pc ls st) : W l Z n0 B R Q cells slots σ pc ls st := by
  subst hτ; exact W.conv (fun _ S => S.pull hi) k
def pulls : Asn → List Nat → Asn
  | σ, [] => σ
  | σ, i :: is => pulls (match σ[i]? with | some x => x :: σ.eraseIdx i | none => σ) is
theorem Sep.pulls {h : Heap} : ∀ (is : List Nat) (σ : Asn), Sep Z n0 h σ → Sep Z n0 h (pulls σ is)
  | [], σ, S => S
  | i :: is, σ, S => by
    refine Sep.pulls is _ ?_
    cases hx : σ[i]? with
    | none => exact S
    | some x => exact S.pull hx
theorem W.pulls (τ : Asn) (is : List Nat) (hτ : pulls σ is = τ) (k : W l Z n0 B R Q cells slots τ pc ls st) : W l Z n0 B R Q cells slots σ pc ls st := by
  subst hτ; exact W.conv (fun _ S => S.pulls is σ) k
theorem W.ne (i j : Nat) {a b : Addr} {P P' : Cell → Prop} (hi : σ[i]? = some (a, P)) (hj : σ[j]? = some (b, P')) (hij : i ≠ j) (k : a ≠ b → W l Z n0 B R Q cells slots σ pc ls st) : W l Z n0 B R Q cells slots σ pc ls st :=
  fun p e s m args below meth c T locs C X N S => k (S.ne hi hj hij) p e s m args below meth c T locs C X N S
theorem W.of2 {σ' : Asn} {cells' slots' : Nat} (hstep : ∀ (p : Program) (e : Env) (s : State) (m : MethodId) (args : Array Value) (below : List Frame) (meth : Method) (c : Code) (T : State) (locs : List Loc), Cx p s m meth c Z B → Stand p l e R s m args below meth c T locs cells slots → Fr n0 locs → Sep Z n0 T.heap σ →
      ∃ (T' : State) (locs' : List Loc), Stand p l e R s m args below meth c T' locs' cells' slots' ∧ Fr n0 locs' ∧ Sep Z n0 T'.heap σ' ∧ ∀ t, Steps p.tables e below (T'.setTop (mkF m pc' ls' st')) t → Steps p.tables e below (T.setTop (mkF m pc ls st)) t)
    (k : W l Z n0 B R Q cells' slots' σ' pc' ls' st') : W l Z n0 B R Q cells slots σ pc ls st := by
  intro p e s m args below meth c T locs C X N S
  obtain ⟨T', locs', X', N', S', st⟩ := hstep p e s m args below meth c T locs C X N S
  obtain ⟨u, o, h1, h2⟩ := k p e s m args below meth c T' locs' C X' N' S'
  exact ⟨u, o, st u h1, h2⟩
theorem W.getF (i j : Nat) {idx : Nat} {a : Addr} {C R0 O n d host : String} {fs : List (String × String × String × Value)} {v : Value} (hd : decode B.2.2.1 pc = .ok (.getfield idx, 3)) (w : (Jvm.Cond.fieldLink B.1 idx R0 n d).before a0 Z = true ∨ (Jvm.Cond.fieldLinkNest B.1 idx R0 n d host).before a0 Z = true) (via : Via Z R0 O n d)
    (hi : σ[i]? = some (a, ObjP Z C fs)) (hf : fs[j]? = some (O, n, d, v)) (hp : pc + 3 = pc') (k : W l Z n0 B R Q cells slots σ pc' ls (v :: st)) : W l Z n0 B R Q cells slots σ pc ls (.ref a :: st) := by
  subst hp
  refine W.of2 (fun p e s m args below meth c T locs ⟨hx, hby, hml, hown, hnm, hZ, hrt, hlk⟩ X N S => ?_) k
  obtain ⟨-, c1, hc1, H⟩ := S.get hi
  obtain ⟨T', X', e', st'⟩ := RoadKit.getF X hx hZ.wide hown w via rfl (fld_out (H.2.1 _ (List.mem_of_getElem? hf)) hc1) (g := mkF m pc ls (.ref a :: st)) rfl rfl (hb hby hd)
  exact ⟨T', locs, X', N, by rw [e']; exact S, st'⟩
theorem W.putF (σ' : Asn) (i j : Nat) {idx kk : Nat} {a : Addr} {C R0 O n d host : String} {ty : FieldType} {fs : List (String × String × String × Value)} {v old : Value} (hd : decode B.2.2.1 pc = .ok (.putfield idx, 3)) (w : (Jvm.Cond.fieldLink B.1 idx R0 n d).before a0 Z = true ∨ (Jvm.Cond.fieldLinkNest B.1 idx R0 n d host).before a0 Z = true) (via : Via Z R0 O n d)
    (L : (Jvm.Cond.lays C O n d).before a0 Z = true ∨ ((Jvm.Cond.laysFinal C O n d).before a0 Z = true ∧ B.1 = O ∧ B.2.1 = "<init>")) (wi : (Jvm.Cond.instantiable C kk).before a0 Z = true) (hty : parseFieldDescriptor d = some ty) (hn : narrow ty v = v) (hft : fits ty v = true)
    (hi : σ[i]? = some (a, ObjP Z C fs)) (hf : fs[j]? = some (O, n, d, old)) (hσ : σ.set i (a, ObjP Z C (fs.set j (O, n, d, v))) = σ') (hp : pc + 3 = pc') (k : W l Z n0 B R Q cells slots σ' pc' ls st) : W l Z n0 B R Q cells slots σ pc ls (v :: .ref a :: st) := by
  subst hp hσ
  refine W.of2 (fun p e s m args below meth c T locs ⟨hx, hby, hml, hown, hnm, hZ, hrt, hlk⟩ X N S => ?_) k
  obtain ⟨ha, c1, hc1, H⟩ := S.get hi
  obtain ⟨T', h', X', e', Wr', st'⟩ := RoadKit.putF X hx hZ.wide hown w via rfl (fld_out (H.2.1 _ (List.mem_of_getElem? hf)) hc1) (exa_out H.1 hc1) (L.imp id (fun q => ⟨q.1, q.2.1, hnm.trans q.2.2⟩)) wi hty hn hft (g := mkF m pc ls (v :: .ref a :: st)) rfl rfl (hb hby hd)
  exact ⟨T', _, X', Fr.snoc X' N ha, by rw [e']; exact S.set hi Wr' (fun c2 hc2 H2 => H2.put hf hc2 Wr'), st'⟩
theorem W.getS {idx : Nat} {R0 O n d : String} {v : Value} (hd : decode B.2.2.1 pc = .ok (.getstatic idx, 3)) (w : (Jvm.Cond.fieldLink B.1 idx R0 n d).before a0 Z = true) (via : Via Z R0 O n d) (F : Sta Z Z.heap O n d v) (hp : pc + 3 = pc') (k : W l Z n0 B R Q cells slots σ pc' ls (v :: st)) : W l Z n0 B R Q cells slots σ pc ls st := by
  subst hp
  refine W.of2 (fun p e s m args below meth c T locs ⟨hx, hby, hml, hown, hnm, hZ, hrt, hlk⟩ X N S => ?_) k
  obtain ⟨T', X', e', st'⟩ := RoadKit.getS (host := "") X hx hZ.wide hown w via rfl (F.ext S.1.2) (g := mkF m pc ls st) rfl (hb hby hd)
  exact ⟨T', locs, X', N, by rw [e']; exact S, st'⟩
theorem W.new {idx kk : Nat} {C : String} (fs : List (String × String × String × Value)) (hd : decode B.2.2.1 pc = .ok (.new idx, 3)) (w : (Jvm.Cond.classLink B.1 idx C).before a0 Z = true) (wi : (Jvm.Cond.instantiable C kk).before a0 Z = true) (wz : (Jvm.Cond.initialized C).before a0 Z = true)
    (hL : LaidL Z a0 C fs) (hN : (fs.map (fun f => f.2.1)).Nodup) (hc : cells + 1 ≤ R.cells) (hs : slots + kk ≤ R.slots) (hp : pc + 3 = pc') (k : ∀ a, W l Z n0 B R Q (cells + 1) (slots + kk) ((a, ObjP Z C fs) :: σ) pc' ls (.ref a :: st)) : W l Z n0 B R Q cells slots σ pc ls st := by
  subst hp
  intro p e s m args below meth c T locs C0 X N S
  obtain ⟨hx, hby, hml, hown, hnm, hZ, hrt, hlk⟩ := C0
  obtain ⟨T2, h2, X2, e2, E2, A2, D2, ⟨cl, hcl, -, -⟩, st2⟩ := RoadKit.newO X hx hZ.wide hown w wi wz rfl (g := mkF m pc ls st) rfl (hb hby hd) hc hs
  have S2 : Sep Z n0 h2 ((T.heap.size, ObjP Z C fs) :: σ) := by
    refine S.new E2 hcl ⟨exa_in A2 hcl, fun f hf => ?_, laid_pair hL hN⟩
    obtain ⟨L1, ty, q1, q2⟩ := laid_mem hL f hf
    rw [q2]
    exact fld_in (D2 L1 q1) hcl
  obtain ⟨u, o, h1, h3⟩ := k T.heap.size p e s m args below meth c T2 locs ⟨hx, hby, hml, hown, hnm, hZ, hrt, hlk⟩ X2 N (by rw [e2]; exact S2)
  exact ⟨u, o, st2 u h1, h3⟩
theorem newA_list (cA : ClassId) (ty : FieldType) (n : Int32) : (newA cA ty n).slots.toList = List.replicate n.toNatClampNeg (defaultValue ty) := by simp [newA]
theorem W.newI (N : Nat) {aty : ArrayType} {n : Int32} (cap : Nat) (hd : decode B.2.2.1 pc = .ok (.newarray aty, 2)) (w : (Jvm.Cond.arrayClass (newarray.typeOf aty)).before a0 Z = true) (hdef : defaultValue (newarray.typeOf aty) = .int 0) (hn : ¬ n < 0) (hN : n.toNatClampNeg = N) (hcap : N ≤ cap) (h8 : cap * 8 ≤ 536870912)
    (hc : cells + 1 ≤ R.cells) (hs : slots + cap ≤ R.slots) (hp : pc + 2 = pc') (k : ∀ a, W l Z n0 B R Q (cells + 1) (slots + cap) ((a, IA Z (newarray.typeOf aty) (List.replicate N 0)) :: σ) pc' ls (.ref a :: st)) : W l Z n0 B R Q cells slots σ pc ls (.int n :: st) := by
  subst hp hN
  intro p e s m args below meth c T locs C0 X N S
  obtain ⟨hx, hby, hml, hown, hnm, hZ, hrt, hlk⟩ := C0
  obtain ⟨T2, h2, cA, X2, e2, E2, A2, st2⟩ := RoadKit.newP X hx hZ.wide w rfl (g := mkF m pc ls (.int n :: st)) rfl (hb hby hd) rfl hn hcap h8 hc hs
  have S2 := S.new (P := IA Z (newarray.typeOf aty) (List.replicate n.toNatClampNeg 0)) E2 A2.1 ⟨A2.2.1, A2.2.2, by rw [newA_list, hdef, List.map_replicate]⟩
  obtain ⟨u, o, h1, h3⟩ := k T.heap.size p e s m args below meth c T2 locs ⟨hx, hby, hml, hown, hnm, hZ, hrt, hlk⟩ X2 N (by rw [e2]; exact S2)
  exact ⟨u, o, st2 u h1, h3⟩
theorem W.newJ (N : Nat) {n : Int32} (cap : Nat) (hd : decode B.2.2.1 pc = .ok (.newarray .long, 2)) (w : (Jvm.Cond.arrayClass .long).before a0 Z = true) (hn : ¬ n < 0) (hN : n.toNatClampNeg = N) (hcap : N ≤ cap) (h8 : cap * 8 ≤ 536870912)
    (hc : cells + 1 ≤ R.cells) (hs : slots + cap ≤ R.slots) (hp : pc + 2 = pc') (k : ∀ a, W l Z n0 B R Q (cells + 1) (slots + cap) ((a, LA Z (List.replicate N 0)) :: σ) pc' ls (.ref a :: st)) : W l Z n0 B R Q cells slots σ pc ls (.int n :: st) := by
  subst hp hN
  intro p e s m args below meth c T locs C0 X N S
  obtain ⟨hx, hby, hml, hown, hnm, hZ, hrt, hlk⟩ := C0
  obtain ⟨T2, h2, cA, X2, e2, E2, A2, st2⟩ := RoadKit.newP X hx hZ.wide (aty := .long) w rfl (g := mkF m pc ls (.int n :: st)) rfl (hb hby hd) rfl hn hcap h8 hc hs
  have S2 := S.new (P := LA Z (List.replicate n.toNatClampNeg 0)) E2 A2.1 ⟨A2.2.1, A2.2.2, by rw [newA_list, List.map_replicate]; rfl⟩
  obtain ⟨u, o, h1, h3⟩ := k T.heap.size p e s m args below meth c T2 locs ⟨hx, hby, hml, hown, hnm, hZ, hrt, hlk⟩ X2 N (by rw [e2]; exact S2)
  exact ⟨u, o, st2 u h1, h3⟩
theorem slot_get {c : Cell} {vs : List Value} {n : Nat} {v : Value} (h : c.slots.toList = vs) (hv : vs[n]? = some v) : c.slots[n]? = some v ∧ n < c.slots.size := by
  have e : c.slots[n]? = some v := by rw [← Array.getElem?_toList, h]; exact hv
  exact ⟨e, (Array.getElem?_eq_some_iff.mp e).1⟩
theorem slot_set {c : Cell} {vs : List Value} (h : c.slots.toList = vs) (n : Nat) (v : Value) : (c.setSlot n v).slots.toList = vs.set n v := by rw [← h]; simp [Cell.setSlot]
theorem slot_in {c : Cell} {n : Nat} {j : Int32} (h0 : ¬ j < 0) (hn : j.toNatClampNeg = n) (h : n < c.slots.size) : ¬ (j < 0 ∨ c.slots.size ≤ j.toNatClampNeg) := by rw [hn]; exact fun q => q.elim h0 (fun z => by omega)
theorem W.iaload (i n : Nat) {a : Addr} {xs : List Int32} {j : Int32} {x : Int32} (hd : decode B.2.2.1 pc = .ok (.iaload, 1)) (hi : σ[i]? = some (a, IA Z .int xs)) (h0 : ¬ j < 0) (hn : j.toNatClampNeg = n) (hx : xs[n]? = some x) (hp : pc + 1 = pc') (k : W l Z n0 B R Q cells slots σ pc' ls (.int x :: st)) : W l Z n0 B R Q cells slots σ pc ls (.int j :: .ref a :: st) := by
  subst hp
  refine W.of2 (fun p e s m args below meth c T locs ⟨hx', hby, hml, hown, hnm, hZ, hrt, hlk⟩ X N S => ?_) k
  obtain ⟨-, c1, hc1, H1, H2, H3⟩ := S.get hi
  obtain ⟨g1, g2⟩ := slot_get (n := n) (v := .int x) H3 (by rw [List.getElem?_map, hx]; rfl)
  exact ⟨T, locs, X, N, S, fun t ht => X.iaload hx' hc1 (State.isArrayOf_alike hZ.alike H1) H2 (slot_in h0 hn g2) (by rw [hn]; exact g1) (g := mkF m pc ls (.int j :: .ref a :: st)) rfl rfl (hb hby hd) t ht⟩
theorem W.caload (i n : Nat) {a : Addr} {xs : List Int32} {j : Int32} {x : Int32} (hd : decode B.2.2.1 pc = .ok (.caload, 1)) (hi : σ[i]? = some (a, IA Z .char xs)) (h0 : ¬ j < 0) (hn : j.toNatClampNeg = n) (hx : xs[n]? = some x) (hp : pc + 1 = pc') (k : W l Z n0 B R Q cells slots σ pc' ls (.int x :: st)) : W l Z n0 B R Q cells slots σ pc ls (.int j :: .ref a :: st) := by
  subst hp
  refine W.of2 (fun p e s m args below meth c T locs ⟨hx', hby, hml, hown, hnm, hZ, hrt, hlk⟩ X N S => ?_) k
  obtain ⟨-, c1, hc1, H1, H2, H3⟩ := S.get hi
  obtain ⟨g1, g2⟩ := slot_get (n := n) (v := .int x) H3 (by rw [List.getElem?_map, hx]; rfl)
  exact ⟨T, locs, X, N, S, fun t ht => X.caload hx' hc1 (State.isArrayOf_alike hZ.alike H1) H2 (slot_in h0 hn g2) (by rw [hn]; exact g1) (g := mkF m pc ls (.int j :: .ref a :: st)) rfl rfl (hb hby hd) t ht⟩
theorem W.baload (i n : Nat) {a : Addr} {xs : List Int32} {j : Int32} {x : Int32} (hd : decode B.2.2.1 pc = .ok (.baload, 1)) (hi : σ[i]? = some (a, IA Z .byte xs)) (h0 : ¬ j < 0) (hn : j.toNatClampNeg = n) (hx : xs[n]? = some x) (hp : pc + 1 = pc') (k : W l Z n0 B R Q cells slots σ pc' ls (.int x :: st)) : W l Z n0 B R Q cells slots σ pc ls (.int j :: .ref a :: st) := by
  subst hp
  refine W.of2 (fun p e s m args below meth c T locs ⟨hx', hby, hml, hown, hnm, hZ, hrt, hlk⟩ X N S => ?_) k
  obtain ⟨-, c1, hc1, H1, H2, H3⟩ := S.get hi
  obtain ⟨g1, g2⟩ := slot_get (n := n) (v := .int x) H3 (by rw [List.getElem?_map, hx]; rfl)
  exact ⟨T, locs, X, N, S, fun t ht => X.baloadBytes hx' hc1 (State.isArrayOf_alike hZ.alike H1) H2 (slot_in h0 hn g2) (by rw [hn]; exact g1) (g := mkF m pc ls (.int j :: .ref a :: st)) rfl rfl (hb hby hd) t ht⟩
theorem W.zaload (i n : Nat) {a : Addr} {xs : List Int32} {j : Int32} {x : Int32} (hd : decode B.2.2.1 pc = .ok (.baload, 1)) (hi : σ[i]? = some (a, IA Z .boolean xs)) (h0 : ¬ j < 0) (hn : j.toNatClampNeg = n) (hx : xs[n]? = some x) (hp : pc + 1 = pc') (k : W l Z n0 B R Q cells slots σ pc' ls (.int x :: st)) : W l Z n0 B R Q cells slots σ pc ls (.int j :: .ref a :: st) := by
  subst hp
  refine W.of2 (fun p e s m args below meth c T locs ⟨hx', hby, hml, hown, hnm, hZ, hrt, hlk⟩ X N S => ?_) k
  obtain ⟨-, c1, hc1, H1, H2, H3⟩ := S.get hi
  obtain ⟨g1, g2⟩ := slot_get (n := n) (v := .int x) H3 (by rw [List.getElem?_map, hx]; rfl)
  exact ⟨T, locs, X, N, S, fun t ht => X.baloadBooleans hx' hc1 (State.isArrayOf_alike hZ.alike H1) H2 (slot_in h0 hn g2) (by rw [hn]; exact g1) (g := mkF m pc ls (.int j :: .ref a :: st)) rfl rfl (hb hby hd) t ht⟩
theorem W.laload (i n : Nat) {a : Addr} {xs : List Int64} {j : Int32} {x : Int64} (hd : decode B.2.2.1 pc = .ok (.laload, 1)) (hi : σ[i]? = some (a, LA Z xs)) (h0 : ¬ j < 0) (hn : j.toNatClampNeg = n) (hx : xs[n]? = some x) (hp : pc + 1 = pc') (k : W l Z n0 B R Q cells slots σ pc' ls (.long x :: st)) : W l Z n0 B R Q cells slots σ pc ls (.int j :: .ref a :: st) := by
  subst hp
  refine W.of2 (fun p e s m args below meth c T locs ⟨hx', hby, hml, hown, hnm, hZ, hrt, hlk⟩ X N S => ?_) k
  obtain ⟨-, c1, hc1, H1, H2, H3⟩ := S.get hi
  obtain ⟨g1, g2⟩ := slot_get (n := n) (v := .long x) H3 (by rw [List.getElem?_map, hx]; rfl)
  exact ⟨T, locs, X, N, S, fun t ht => X.laload hx' hc1 (State.isArrayOf_alike hZ.alike H1) H2 (slot_in h0 hn g2) (by rw [hn]; exact g1) (g := mkF m pc ls (.int j :: .ref a :: st)) rfl rfl (hb hby hd) t ht⟩
theorem W.iastore (σ' : Asn) (i n : Nat) {a : Addr} {xs : List Int32} {j : Int32} {x : Int32} (hd : decode B.2.2.1 pc = .ok (.iastore, 1)) (hi : σ[i]? = some (a, IA Z .int xs)) (h0 : ¬ j < 0) (hn : j.toNatClampNeg = n) (hx : n < xs.length) (hσ : σ.set i (a, IA Z .int (xs.set n (x))) = σ') (hp : pc + 1 = pc') (k : W l Z n0 B R Q cells slots σ' pc' ls st) : W l Z n0 B R Q cells slots σ pc ls (.int x :: .int j :: .ref a :: st) := by
  subst hp hσ
  refine W.of2 (fun p e s m args below meth c T locs ⟨hx', hby, hml, hown, hnm, hZ, hrt, hlk⟩ X N S => ?_) k
  obtain ⟨ha, c1, hc1, H1, H2, H3⟩ := S.get hi
  have g2 : n < c1.slots.size := by rw [← Array.length_toList, H3, List.length_map]; exact hx
  obtain ⟨T', h', X', e', W', st'⟩ := RoadKit.stI X hx' hZ.wide rfl ⟨hc1, H1, H2⟩ (slot_in h0 hn g2) (g := mkF m pc ls (.int x :: .int j :: .ref a :: st)) rfl rfl (hb hby hd)
  rw [hn] at W'
  refine ⟨T', _, X', Fr.snoc X' N ha, ?_, st'⟩
  rw [e']
  exact S.set hi W' (fun c2 hc2 H => ⟨H.1, H.2.1, by rw [slot_set H.2.2, List.map_set]⟩)
theorem W.castore (σ' : Asn) (i n : Nat) {a : Addr} {xs : List Int32} {j : Int32} {x : Int32} (hd : decode B.2.2.1 pc = .ok (.castore, 1)) (hi : σ[i]? = some (a, IA Z .char xs)) (h0 : ¬ j < 0) (hn : j.toNatClampNeg = n) (hx : n < xs.length) (hσ : σ.set i (a, IA Z .char (xs.set n (nar .char x))) = σ') (hp : pc + 1 = pc') (k : W l Z n0 B R Q cells slots σ' pc' ls st) : W l Z n0 B R Q cells slots σ pc ls (.int x :: .int j :: .ref a :: st) := by
  subst hp hσ
  refine W.of2 (fun p e s m args below meth c T locs ⟨hx', hby, hml, hown, hnm, hZ, hrt, hlk⟩ X N S => ?_) k
  obtain ⟨ha, c1, hc1, H1, H2, H3⟩ := S.get hi
  have g2 : n < c1.slots.size := by rw [← Array.length_toList, H3, List.length_map]; exact hx
  obtain ⟨T', h', X', e', W', st'⟩ := RoadKit.stC X hx' hZ.wide rfl ⟨hc1, H1, H2⟩ (slot_in h0 hn g2) (g := mkF m pc ls (.int x :: .int j :: .ref a :: st)) rfl rfl (hb hby hd)
  rw [hn] at W'
  refine ⟨T', _, X', Fr.snoc X' N ha, ?_, st'⟩
  rw [e']
  exact S.set hi W' (fun c2 hc2 H => ⟨H.1, H.2.1, by rw [slot_set H.2.2, List.map_set]⟩)
theorem W.bastore (σ' : Asn) (i n : Nat) {a : Addr} {xs : List Int32} {j : Int32} {x : Int32} (hd : decode B.2.2.1 pc = .ok (.bastore, 1)) (hi : σ[i]? = some (a, IA Z .byte xs)) (h0 : ¬ j < 0) (hn : j.toNatClampNeg = n) (hx : n < xs.length) (hσ : σ.set i (a, IA Z .byte (xs.set n (nar .byte x))) = σ') (hp : pc + 1 = pc') (k : W l Z n0 B R Q cells slots σ' pc' ls st) : W l Z n0 B R Q cells slots σ pc ls (.int x :: .int j :: .ref a :: st) := by
  subst hp hσ
  refine W.of2 (fun p e s m args below meth c T locs ⟨hx', hby, hml, hown, hnm, hZ, hrt, hlk⟩ X N S => ?_) k
  obtain ⟨ha, c1, hc1, H1, H2, H3⟩ := S.get hi
  have g2 : n < c1.slots.size := by rw [← Array.length_toList, H3, List.length_map]; exact hx
  obtain ⟨T', h', X', e', W', st'⟩ := RoadKit.stB X hx' hZ.wide rfl ⟨hc1, H1, H2⟩ (slot_in h0 hn g2) (g := mkF m pc ls (.int x :: .int j :: .ref a :: st)) rfl rfl (hb hby hd)
  rw [hn] at W'
  refine ⟨T', _, X', Fr.snoc X' N ha, ?_, st'⟩
  rw [e']
  exact S.set hi W' (fun c2 hc2 H => ⟨H.1, H.2.1, by rw [slot_set H.2.2, List.map_set]⟩)
theorem W.zastore (σ' : Asn) (i n : Nat) {a : Addr} {xs : List Int32} {j : Int32} {x : Int32} (hd : decode B.2.2.1 pc = .ok (.bastore, 1)) (hi : σ[i]? = some (a, IA Z .boolean xs)) (h0 : ¬ j < 0) (hn : j.toNatClampNeg = n) (hx : n < xs.length) (hσ : σ.set i (a, IA Z .boolean (xs.set n (nar .boolean x))) = σ') (hp : pc + 1 = pc') (k : W l Z n0 B R Q cells slots σ' pc' ls st) : W l Z n0 B R Q cells slots σ pc ls (.int x :: .int j :: .ref a :: st) := by
  subst hp hσ
  refine W.of2 (fun p e s m args below meth c T locs ⟨hx', hby, hml, hown, hnm, hZ, hrt, hlk⟩ X N S => ?_) k
  obtain ⟨ha, c1, hc1, H1, H2, H3⟩ := S.get hi
  have g2 : n < c1.slots.size := by rw [← Array.length_toList, H3, List.length_map]; exact hx
  obtain ⟨T', h', X', e', W', st'⟩ := RoadKit.stZ X hx' hZ.wide rfl ⟨hc1, H1, H2⟩ (slot_in h0 hn g2) (g := mkF m pc ls (.int x :: .int j :: .ref a :: st)) rfl rfl (hb hby hd)
  rw [hn] at W'
  refine ⟨T', _, X', Fr.snoc X' N ha, ?_, st'⟩
  rw [e']
  exact S.set hi W' (fun c2 hc2 H => ⟨H.1, H.2.1, by rw [slot_set H.2.2, List.map_set]⟩)
theorem W.lastore (σ' : Asn) (i n : Nat) {a : Addr} {xs : List Int64} {j : Int32} {x : Int64} (hd : decode B.2.2.1 pc = .ok (.lastore, 1)) (hi : σ[i]? = some (a, LA Z xs)) (h0 : ¬ j < 0) (hn : j.toNatClampNeg = n) (hx : n < xs.length) (hσ : σ.set i (a, LA Z (xs.set n (x))) = σ') (hp : pc + 1 = pc') (k : W l Z n0 B R Q cells slots σ' pc' ls st) : W l Z n0 B R Q cells slots σ pc ls (.long x :: .int j :: .ref a :: st) := by
  subst hp hσ
  refine W.of2 (fun p e s m args below meth c T locs ⟨hx', hby, hml, hown, hnm, hZ, hrt, hlk⟩ X N S => ?_) k
  obtain ⟨ha, c1, hc1, H1, H2, H3⟩ := S.get hi
  have g2 : n < c1.slots.size := by rw [← Array.length_toList, H3, List.length_map]; exact hx
  obtain ⟨T', h', X', e', W', st'⟩ := RoadKit.stJ X hx' hZ.wide rfl ⟨hc1, H1, H2⟩ (slot_in h0 hn g2) (g := mkF m pc ls (.long x :: .int j :: .ref a :: st)) rfl rfl (hb hby hd)
  rw [hn] at W'
  refine ⟨T', _, X', Fr.snoc X' N ha, ?_, st'⟩
  rw [e']
  exact S.set hi W' (fun c2 hc2 H => ⟨H.1, H.2.1, by rw [slot_set H.2.2, List.map_set]⟩)
theorem W.len (i : Nat) {a : Addr} {ty : FieldType} {xs : List Int32} (v : Int32) (hd : decode B.2.2.1 pc = .ok (.arraylength, 1)) (hi : σ[i]? = some (a, IA Z ty xs)) (hv : xs.length.toInt32 = v) (hp : pc + 1 = pc') (k : W l Z n0 B R Q cells slots σ pc' ls (.int v :: st)) : W l Z n0 B R Q cells slots σ pc ls (.ref a :: st) := by
  subst hp hv
  refine W.of2 (fun p e s m args below meth c T locs ⟨hx, hby, hml, hown, hnm, hZ, hrt, hlk⟩ X N S => ?_) k
  obtain ⟨-, c1, hc1, H1, H2, H3⟩ := S.get hi
  refine ⟨T, locs, X, N, S, fun t ht => X.arraylength hx hc1 (State.isArrayOf_alike hZ.alike H1) (g := mkF m pc ls (.ref a :: st)) rfl rfl (hb hby hd) t ?_⟩
  have e : c1.slots.size = xs.length := by rw [← Array.length_toList, H3, List.length_map]
  rw [e]; exact ht
theorem W.lenJ (i : Nat) {a : Addr} {xs : List Int64} (v : Int32) (hd : decode B.2.2.1 pc = .ok (.arraylength, 1)) (hi : σ[i]? = some (a, LA Z xs)) (hv : xs.length.toInt32 = v) (hp : pc + 1 = pc') (k : W l Z n0 B R Q cells slots σ pc' ls (.int v :: st)) : W l Z n0 B R Q cells slots σ pc ls (.ref a :: st) := by
  subst hp hv
  refine W.of2 (fun p e s m args below meth c T locs ⟨hx, hby, hml, hown, hnm, hZ, hrt, hlk⟩ X N S => ?_) k
  obtain ⟨-, c1, hc1, H1, H2, H3⟩ := S.get hi
  refine ⟨T, locs, X, N, S, fun t ht => X.arraylength hx hc1 (State.isArrayOf_alike hZ.alike H1) (g := mkF m pc ls (.ref a :: st)) rfl rfl (hb hby hd) t ?_⟩
  have e : c1.slots.size = xs.length := by rw [← Array.length_toList, H3, List.length_map]
  rw [e]; exact ht
theorem W.initO {i : Nat} {a : Addr} (hd : decode B.2.2.1 pc = .ok (.invokespecial i, 3)) (w1 : (Jvm.Cond.methodLink B.1 i Lib.objectInit).before a0 Z = true) (w2 : (Jvm.Cond.instanceMethod Lib.objectInit).before a0 Z = true) (w3 : (Jvm.Cond.code Lib.objectInit object_method_1_code 1 none).before a0 Z = true)
    (hsz : ls.size = B.2.2.2.1) (hf : 1 ≤ R.frames) (hl : (st.map fun v => v.category).sum + 12 ≤ R.locals) (hp : pc + 3 = pc') (k : W l Z n0 B R Q cells slots σ pc' ls st) : W l Z n0 B R Q cells slots σ pc ls (.ref a :: st) := by
  subst hp
  refine W.of2 (fun p e s m args below meth c T locs ⟨hx, hby, hml, hown, hnm, hZ, hrt, hlk⟩ X N S => ?_) k
  obtain ⟨T', X', e', st'⟩ := RoadKit.initO X hx hZ.wide hown w1 w2 w3 rfl (g := mkF m pc ls (.ref a :: st)) rfl (by rw [hml]; exact hsz) rfl (hb hby hd) hf (W := (st.map fun v => v.category).sum) (by show 2 * 0 + _ ≤ _; omega) hl
  exact ⟨T', locs, X', N, by rw [e']; exact S, st'⟩
theorem W.callI {y : MethodName} {bytes : ByteArray} {maxL : Nat} {rm : Room} {a : Addr} {as : List Value} {Qc : Option Value → Asn → Prop} {i : Nat} {sg : MethodDescriptor} (hS : Sp l Z n0 y bytes maxL none rm (.ref a :: as) σ Qc)
    (hd : decode B.2.2.1 pc = .ok (.invokespecial i, 3)) (hy1 : y.name = "<init>") (w1 : (Jvm.Cond.methodLink B.1 i y).before a0 Z = true) (w2 : (Jvm.Cond.instanceMethod y).before a0 Z = true) (wz : (Jvm.Cond.initialized y.cls).before a0 Z = true) (wc : (Jvm.Cond.code y bytes maxL none).before a0 Z = true)
    (hy : y.cls ≠ "java/lang/invoke/MethodHandle" ∧ y.cls ≠ "java/lang/invoke/VarHandle") (hsg : parseMethodDescriptor y.desc = some sg) (hln : as.length = sg.parameters.length) (hst : st = as.reverse ++ .ref a :: rest)
    (hf : rm.frames + 1 ≤ R.frames) (hl : (rest.map fun v => v.category).sum + (maxL + 11) + rm.locals ≤ R.locals) (hc : cells + rm.cells ≤ R.cells) (hs : slots + rm.slots ≤ R.slots) (hsz : ls.size = B.2.2.2.1) (hp : pc + 3 = pc')
    (k : ∀ v σ', Qc v σ' → W l Z n0 B R Q (cells + rm.cells) (slots + rm.slots) σ' pc' ls (v.toList ++ rest)) : W l Z n0 B R Q cells slots σ pc ls st := by
  subst hp
  intro p e s m args below meth c T locs C X N S
  obtain ⟨hx, hby, hml, hown, hnm, hZ, hrt, hlk⟩ := C
  obtain ⟨v, _, ⟨T8, L8, k8, n8⟩, -, X8, ⟨Lc8, ⟨⟨σ', hQ8, hS8⟩, hF8⟩, l8, y8, z8⟩, st8⟩ := X.specialBack hx (y := y) hy1 hown (mvT hZ.wide w1) (mvT hZ.wide w2) (mvT hZ.wide wc) hy (W.back (a0 := a0) hS S hZ wc wz hf hl) (g := (mkF m pc ls st)) rfl (by rw [hml]; exact hsz) (Steps.refl _) (a := a) (argsL := as) (rest := rest) (lenOf hsg hln) hst (by show 2 * 0 + _ ≤ _; omega) (hb hby hd) (fun _ _ => ⟨rfl, rfl, hc, hs⟩)
  dsimp only [Pt.U, Pt.locs, Pt.cells, Pt.slots] at X8 l8 y8 z8 st8 hS8
  subst l8 y8 z8
  obtain ⟨u, o, h1, h2⟩ := k v σ' hQ8 p e s m args below meth c T8 _ ⟨hx, hby, hml, hown, hnm, hZ, hrt, hlk⟩ X8 (N.app hF8) hS8
  exact ⟨u, o, st8.trans h1, h2⟩
theorem W.callV (j : Nat) {y : MethodName} {bytes : ByteArray} {maxL : Nat} {ret : Option FieldType} {rm : Room} {a : Addr} {C : String} {fs : List (String × String × String × Value)} {as : List Value} {Qc : Option Value → Asn → Prop} {i : Nat} {sg : MethodDescriptor} (hj : σ[j]? = some (a, ObjP Z C fs)) (hS : Sp l Z n0 y bytes maxL ret rm (.ref a :: as) σ Qc)
    (hd : decode B.2.2.1 pc = .ok (.invokevirtual i, 3)) (w1 : (Jvm.Cond.methodLink B.1 i y).before a0 Z = true) (wd : (Jvm.Cond.declares y).before a0 Z = true) (wsl : (Jvm.Cond.selects C y y).before a0 Z = true) (w2 : (Jvm.Cond.instanceMethod y).before a0 Z = true) (wz : (Jvm.Cond.initialized y.cls).before a0 Z = true) (wc : (Jvm.Cond.code y bytes maxL ret).before a0 Z = true) (hyc : C = y.cls)
    (hy : y.cls ≠ "java/lang/invoke/MethodHandle" ∧ y.cls ≠ "java/lang/invoke/VarHandle") (hsg : parseMethodDescriptor y.desc = some sg) (hln : as.length = sg.parameters.length) (hst : st = as.reverse ++ .ref a :: rest)
    (hf : rm.frames + 1 ≤ R.frames) (hl : (rest.map fun v => v.category).sum + (maxL + 11) + rm.locals ≤ R.locals) (hc : cells + rm.cells ≤ R.cells) (hs : slots + rm.slots ≤ R.slots) (hsz : ls.size = B.2.2.2.1) (hp : pc + 3 = pc')
    (k : ∀ v σ', Qc v σ' → W l Z n0 B R Q (cells + rm.cells) (slots + rm.slots) σ' pc' ls (v.toList ++ rest)) : W l Z n0 B R Q cells slots σ pc ls st := by
  subst hp hyc
  intro p e s m args below meth c T locs Cc X N S
  obtain ⟨hx, hby, hml, hown, hnm, hZ, hrt, hlk⟩ := Cc
  obtain ⟨-, c1, hc1, H⟩ := S.get hj
  obtain ⟨cq, kq, qa, qb, qc⟩ := isOf hZ.wide rfl (exa_out H.1 hc1)
  obtain ⟨v, _, ⟨T8, L8, k8, n8⟩, -, X8, ⟨Lc8, ⟨⟨σ', hQ8, hS8⟩, hF8⟩, l8, y8, z8⟩, st8⟩ := X.virtualBack hx (y := y) (z := y) hown (mvT hZ.wide w1) (mvT hZ.wide wd) (notFace_of_selects (args := #[]) (mvT hZ.wide wsl)) (mvT hZ.wide wsl) (mvT hZ.wide w2) hy (W.back (a0 := a0) hS S hZ wc wz hf hl) qa qc (g := (mkF m pc ls st)) rfl (by rw [hml]; exact hsz) (Steps.refl _) (argsL := as) (rest := rest) (lenOf hsg hln) hst (by show 2 * 0 + _ ≤ _; omega) (hb hby hd) (fun _ _ => ⟨rfl, rfl, hc, hs⟩)
  dsimp only [Pt.U, Pt.locs, Pt.cells, Pt.slots] at X8 l8 y8 z8 st8 hS8
  subst l8 y8 z8
  obtain ⟨u, o, h1, h2⟩ := k v σ' hQ8 p e s m args below meth c T8 _ ⟨hx, hby, hml, hown, hnm, hZ, hrt, hlk⟩ X8 (N.app hF8) hS8
  exact ⟨u, o, st8.trans h1, h2⟩
end Rules2
section Rules3
variable {l : Launch} {Z : State} {n0 : Nat} {B : Bdy} {R : Room} {Q : Option Value → Asn → Prop} {cells slots : Nat} {σ : Asn} {pc pc' : Nat} {ls ls' : Array Slot} {st st' rest : List Value} {a0 : Array Value}
theorem nar_ref {t : FieldType} {v : Value} (hv : v.isRef = true) : narrow t v = v := by rcases ref_cases hv with rfl | ⟨a, rfl⟩ <;> cases t <;> rfl
theorem fit_ref {n : String} {v : Value} (hv : v.isRef = true) : fits (.object n) v = true := by rcases ref_cases hv with rfl | ⟨a, rfl⟩ <;> rfl
theorem fit_refA {t : FieldType} {v : Value} (hv : v.isRef = true) : fits (.array t) v = true := by rcases ref_cases hv with rfl | ⟨a, rfl⟩ <;> rfl
theorem W.drop (τ : Asn) (i : Nat) (hτ : σ.eraseIdx i = τ) (k : W l Z n0 B R Q cells slots τ pc ls st) : W l Z n0 B R Q cells slots σ pc ls st := by
  subst hτ; exact W.conv (fun _ S => S.sub (List.eraseIdx_sublist σ i)) k
theorem Sep.imp {h : Heap} {i : Nat} {a : Addr} {P P' : Cell → Prop} (S : Sep Z n0 h σ) (hi : σ[i]? = some (a, P)) (hP : ∀ c, P c → P' c) : Sep Z n0 h (σ.set i (a, P')) := by
  refine ⟨S.1, ?_, ?_⟩
  · intro x hx
    obtain ⟨j, hj⟩ := List.mem_iff_getElem?.mp hx
    by_cases hij : i = j
    · subst hij
      rw [List.getElem?_set_self (List.getElem?_eq_some_iff.mp hi).1] at hj
      cases hj
      obtain ⟨q1, c, q2, q3⟩ := S.get hi
      exact ⟨q1, c, q2, hP c q3⟩
    · rw [List.getElem?_set_ne hij] at hj
      exact S.2.1 x (List.mem_of_getElem? hj)
  · have e : (σ.set i (a, P')).map (fun x => x.1) = σ.map (fun x => x.1) := by
      apply List.ext_getElem?
      intro j
      simp only [List.getElem?_map]
      by_cases hij : i = j
      · subst hij
        rw [List.getElem?_set_self (List.getElem?_eq_some_iff.mp hi).1, hi]; rfl
      · rw [List.getElem?_set_ne hij]
    rw [e]; exact S.2.2
theorem ObjP.sub {C : String} {fs fs' : List (String × String × String × Value)} {c : Cell} (H : ObjP Z C fs c) (hs : fs'.Sublist fs) : ObjP Z C fs' c := ⟨H.1, fun f hf => H.2.1 f (hs.subset hf), H.2.2.sublist hs⟩
theorem W.fewer (σ' : Asn) (i : Nat) {a : Addr} {C : String} {fs fs' : List (String × String × String × Value)} (hi : σ[i]? = some (a, ObjP Z C fs)) (hs : fs'.Sublist fs) (hσ : σ.set i (a, ObjP Z C fs') = σ') (k : W l Z n0 B R Q cells slots σ' pc ls st) : W l Z n0 B R Q cells slots σ pc ls st := by
  subst hσ; exact W.conv (fun _ S => S.imp hi (fun c H => H.sub hs)) k
theorem flt_at {s : State} {args : Array Value} {own : String} {i : Nat} {b : UInt32} (hZ : Z.Warmed39 s.vm) (w : (Jvm.Cond.constantFloat own i b).before a0 Z = true) : (Jvm.Cond.constantFloat own i b).before args s = true :=
  constantFloat_same (s := Z.setVm s.vm) (s' := s) (args' := args) rfl ((Cond.constantFloat_setVm hZ.alike own i b).trans w)
theorem W.ldcF {i : Nat} {b : UInt32} (hd : decode B.2.2.1 pc = .ok (.ldc i, 2)) (w : (Jvm.Cond.constantFloat B.1 i b).before a0 Z = true) (hp : pc + 2 = pc') (k : W l Z n0 B R Q cells slots σ pc' ls (.float b :: st)) : W l Z n0 B R Q cells slots σ pc ls st := by
  subst hp; exact W.of (fun p e s m args below meth c T locs C X t h => X.ldcFloatC C.1 C.2.2.2.1 (flt_at C.2.2.2.2.2.1.wide w) (g := mkF m pc ls st) rfl (hb C.2.1 hd) t h) k
theorem W.callP (j : Nat) {y : MethodName} {bytes : ByteArray} {maxL : Nat} {ret : Option FieldType} {rm : Room} {a : Addr} {C : String} {fs : List (String × String × String × Value)} {as : List Value} {Qc : Option Value → Asn → Prop} {i kk : Nat} {sg : MethodDescriptor} (hj : σ[j]? = some (a, ObjP Z C fs)) (hS : Sp l Z n0 y bytes maxL ret rm (.ref a :: as) σ Qc)
    (hd : decode B.2.2.1 pc = .ok (.invokevirtual i, 3)) (w1 : (Jvm.Cond.methodLink B.1 i y).before a0 Z = true) (w2 : (Jvm.Cond.instanceMethod y).before a0 Z = true) (wp : (Jvm.Cond.privateMethod y).before a0 Z = true) (wi : (Jvm.Cond.instantiable y.cls kk).before a0 Z = true) (wz : (Jvm.Cond.initialized y.cls).before a0 Z = true) (wc : (Jvm.Cond.code y bytes maxL ret).before a0 Z = true)
    (hy : y.cls ≠ "java/lang/invoke/MethodHandle" ∧ y.cls ≠ "java/lang/invoke/VarHandle") (hsg : parseMethodDescriptor y.desc = some sg) (hln : as.length = sg.parameters.length) (hst : st = as.reverse ++ .ref a :: rest)
    (hf : rm.frames + 1 ≤ R.frames) (hl : (rest.map fun v => v.category).sum + (maxL + 11) + rm.locals ≤ R.locals) (hc : cells + rm.cells ≤ R.cells) (hs : slots + rm.slots ≤ R.slots) (hsz : ls.size = B.2.2.2.1) (hp : pc + 3 = pc')
    (k : ∀ v σ', Qc v σ' → W l Z n0 B R Q (cells + rm.cells) (slots + rm.slots) σ' pc' ls (v.toList ++ rest)) : W l Z n0 B R Q cells slots σ pc ls st := by
  subst hp
  intro p e s m args below meth c T locs Cc X N S
  obtain ⟨hx, hby, hml, hown, hnm, hZ, hrt, hlk⟩ := Cc
  obtain ⟨-, c1, hc1, H⟩ := S.get hj
  obtain ⟨c2, hc2, hc3⟩ := (exa_out H.1 hc1).cell
  cases hc1.symm.trans hc2
  have hpr : s.PrivateAt y := Cond.privateMethod_at (args := #[]) (mvP hZ.wide wp)
  have hsel : (Jvm.Cond.selects y.cls y y).before args s = true := by
    obtain ⟨ci, ki, i1, i2, -, i4, -⟩ := Cond.instantiable_spec (mvT (args := args) hZ.wide wi)
    exact selects_self_of_private i1 i2 (Bool.or_eq_false_iff.mp i4).1 hpr (mvT hZ.wide w2) hy
  obtain ⟨v, _, ⟨T8, L8, k8, n8⟩, -, X8, ⟨Lc8, ⟨⟨σ', hQ8, hS8⟩, hF8⟩, l8, y8, z8⟩, st8⟩ := X.privateBack hx (y := y) hown (mvT hZ.wide w1) (mvT hZ.wide w2) hsel hpr (mvT hZ.wide wc) hy (W.back (a0 := a0) hS S hZ wc wz hf hl) (g := (mkF m pc ls st)) rfl (by rw [hml]; exact hsz) (Steps.refl _) (a := a) hc1 hc3 (argsL := as) (rest := rest) (lenOf hsg hln) hst (by show 2 * 0 + _ ≤ _; omega) (hb hby hd) (fun _ _ => ⟨rfl, rfl, hc, hs⟩)
  dsimp only [Pt.U, Pt.locs, Pt.cells, Pt.slots] at X8 l8 y8 z8 st8 hS8
  subst l8 y8 z8
  obtain ⟨u, o, h1, h2⟩ := k v σ' hQ8 p e s m args below meth c T8 _ ⟨hx, hby, hml, hown, hnm, hZ, hrt, hlk⟩ X8 (N.app hF8) hS8
  exact ⟨u, o, st8.trans h1, h2⟩
theorem W.callF (j : Nat) {xi y : MethodName} {bytes : ByteArray} {maxL : Nat} {ret : Option FieldType} {rm : Room} {a : Addr} {C : String} {fs : List (String × String × String × Value)} {as : List Value} {Qc : Option Value → Asn → Prop} {i ct : Nat} {sg : MethodDescriptor} (hj : σ[j]? = some (a, ObjP Z C fs)) (hS : Sp l Z n0 y bytes maxL ret rm (.ref a :: as) σ Qc)
    (hd : decode B.2.2.1 pc = .ok (.invokeinterface i ct, 5)) (w1 : (Jvm.Cond.methodLink B.1 i xi).before a0 Z = true) (wd : (Jvm.Cond.declares xi).before a0 Z = true) (wf : (Jvm.Cond.interfaceMethod xi.cls xi.cls xi.name xi.desc).before a0 Z = true) (wsl : (Jvm.Cond.selects C xi y).before a0 Z = true) (w2 : (Jvm.Cond.instanceMethod y).before a0 Z = true)
    (wp : (Jvm.Cond.publicMethod y).before a0 Z = true) (wu : (Jvm.Cond.unhidden C xi.name xi.desc).before a0 Z = true) (wcs : (Jvm.Cond.castable C xi.cls).before a0 Z = true) (wz : (Jvm.Cond.initialized y.cls).before a0 Z = true) (wc : (Jvm.Cond.code y bytes maxL ret).before a0 Z = true)
    (hy : xi.cls ≠ "java/lang/invoke/MethodHandle" ∧ xi.cls ≠ "java/lang/invoke/VarHandle") (hsg : parseMethodDescriptor xi.desc = some sg) (hln : as.length = sg.parameters.length) (hst : st = as.reverse ++ .ref a :: rest)
    (hf : rm.frames + 1 ≤ R.frames) (hl : (rest.map fun v => v.category).sum + (maxL + 11) + rm.locals ≤ R.locals) (hc : cells + rm.cells ≤ R.cells) (hs : slots + rm.slots ≤ R.slots) (hsz : ls.size = B.2.2.2.1) (hp : pc + 5 = pc')
    (k : ∀ v σ', Qc v σ' → W l Z n0 B R Q (cells + rm.cells) (slots + rm.slots) σ' pc' ls (v.toList ++ rest)) : W l Z n0 B R Q cells slots σ pc ls st := by
  subst hp
  intro p e s m args below meth c T locs Cc X N S
  obtain ⟨hx, hby, hml, hown, hnm, hZ, hrt, hlk⟩ := Cc
  obtain ⟨-, c1, hc1, H⟩ := S.get hj
  obtain ⟨cq, kq, qa, qb, qc⟩ := isOf hZ.wide rfl (exa_out H.1 hc1)
  obtain ⟨v, _, ⟨T8, L8, k8, n8⟩, -, X8, ⟨Lc8, ⟨⟨σ', hQ8, hS8⟩, hF8⟩, l8, y8, z8⟩, st8⟩ := X.interfaceBack hx (xi := xi) (y := y) hown (mvT hZ.wide w1) (mvT hZ.wide wd) (mvT hZ.wide wf (by simp [Cond.onTables, Cond.keepsFace, Cond.keeps, Cond.steady, Cond.faceAtom]; exact hy)) (mvT hZ.wide wsl) (mvT hZ.wide w2) (mvT hZ.wide wp) (mvT hZ.wide wu) (mvT hZ.wide wcs) hy (W.back (a0 := a0) hS S hZ wc wz hf hl) qa qb qc (g := (mkF m pc ls st)) rfl (by rw [hml]; exact hsz) (Steps.refl _) (argsL := as) (rest := rest) (lenOf hsg hln) hst (by show 2 * 0 + _ ≤ _; omega) (hb hby hd) (fun _ _ => ⟨rfl, rfl, hc, hs⟩)
  dsimp only [Pt.U, Pt.locs, Pt.cells, Pt.slots] at X8 l8 y8 z8 st8 hS8
  subst l8 y8 z8
  obtain ⟨u, o, h1, h2⟩ := k v σ' hQ8 p e s m args below meth c T8 _ ⟨hx, hby, hml, hown, hnm, hZ, hrt, hlk⟩ X8 (N.app hF8) hS8
  exact ⟨u, o, st8.trans h1, h2⟩
end Rules3
section Rules4
variable {l : Launch} {Z : State} {n0 : Nat} {B : Bdy} {R : Room} {Q : Option Value → Asn → Prop} {cells slots : Nat} {σ : Asn} {pc pc' : Nat} {ls ls' : Array Slot} {st st' rest : List Value} {a0 : Array Value}
theorem Sep.keep1 {h h' : Heap} {j : Nat} {b : Addr} {P P' : Cell → Prop} {c' : Cell} (S : Sep Z n0 h σ) (hj : σ[j]? = some (b, P)) (K : Keep h h' [b]) (hc : h'[b]? = some c') (hP : P' c') : Sep Z n0 h' (σ.set j (b, P')) := by
  obtain ⟨hn, c, hc0, hp⟩ := S.get hj
  refine ⟨S.1.keep K (allS hn all0), ?_, ?_⟩
  · intro x hx
    obtain ⟨i, hi⟩ := List.mem_iff_getElem?.mp hx
    by_cases hij : j = i
    · subst hij
      rw [List.getElem?_set_self (List.getElem?_eq_some_iff.mp hj).1] at hi
      cases hi
      exact ⟨hn, c', hc, hP⟩
    · rw [List.getElem?_set_ne hij] at hi
      obtain ⟨xb, xP⟩ := x
      obtain ⟨hn2, c2, hc2, hp2⟩ := S.get hi
      have hne := S.ne hi hj (Ne.symm hij)
      exact ⟨hn2, c2, K.2.1 _ _ hc2 (ninS hne nin0), hp2⟩
  · have e : (σ.set j (b, P')).map (fun x => x.1) = σ.map (fun x => x.1) := by
      apply List.ext_getElem?
      intro i
      simp only [List.getElem?_map]
      by_cases hij : j = i
      · subst hij
        rw [List.getElem?_set_self (List.getElem?_eq_some_iff.mp hj).1, hj]; rfl
      · rw [List.getElem?_set_ne hij]
    rw [e]; exact S.2.2
theorem ofNat_nn {n : Nat} (h : n < 2 ^ 31) : ¬ Int32.ofNat n < 0 ∧ (Int32.ofNat n).toNatClampNeg = n := by
  have e : (Int32.ofNat n).toInt = n := Int32.toInt_ofNat_of_lt h
  refine ⟨fun q => ?_, ?_⟩
  · have h0 : (0 : Int32).toInt = 0 := by decide
    rw [Int32.lt_iff_toInt_lt, e, h0] at q; omega
  · simp only [Int32.toNatClampNeg, e]; omega
theorem ia_arv {h : Heap} {a : Addr} {c : Cell} {xs : List Int32} (hc : h[a]? = some c) (H : IA Z .int xs c) (hl : xs.length < 2 ^ 31) : Arv Z h a c.cls .int (Int32.ofNat xs.length) (xs.map Value.int) (.int 0) := by
  obtain ⟨H1, H2, H3⟩ := H
  have hs : c.slots.size = xs.length := by rw [← Array.length_toList, H3, List.length_map]
  have hg : ∀ k, k < c.slots.size → ∃ x, (xs.map Value.int).getD k (.int 0) = .int x ∧ c.slots[k]? = some (.int x) := by
    intro k hk
    have hk' : k < xs.length := by omega
    refine ⟨xs[k], by simp [List.getD_eq_getElem?_getD, hk'], ?_⟩
    exact (slot_get H3 (by rw [List.getElem?_map, List.getElem?_eq_getElem hk']; rfl)).1
  refine ⟨c, ⟨hc, H1, H2⟩, rfl, by rw [(ofNat_nn hl).2, hs], (ofNat_nn hl).1, fun k hk => ?_, fun k hk => ?_⟩
  · obtain ⟨x, e1, e2⟩ := hg k hk; rw [e1, e2]
  · obtain ⟨x, e1, -⟩ := hg k hk; rw [e1]; rfl
theorem W.copy1 (σ' : Asn) (i j d : Nat) {idx : Nat} {a b : Addr} {xs ys : List Int32} {x dp : Int32} (hd : decode B.2.2.1 pc = .ok (.invokestatic idx, 3)) (w1 : (Jvm.Cond.methodLink B.1 idx Jvm.Stand.acN).before a0 Z = true) (w2 : (Jvm.Cond.native Jvm.Stand.acN).before a0 Z = true) (w3 : (Jvm.Cond.static Jvm.Stand.acN).before a0 Z = true) (w4 : (Jvm.Cond.initialized "java/lang/System").before a0 Z = true)
    (hi : σ[i]? = some (a, IA Z .int xs)) (hj : σ[j]? = some (b, IA Z .int ys)) (hx : xs[0]? = some x) (h0 : ¬ dp < 0) (hdn : dp.toNatClampNeg = d) (hl : d < ys.length) (hxl : xs.length < 2 ^ 31) (hyl : ys.length < 2 ^ 31) (hσ : σ.set j (b, IA Z .int (ys.set d x)) = σ')
    (hsz : ls.size = B.2.2.2.1) (hf : 1 ≤ R.frames) (hlo : (st.map fun v => v.category).sum + 18 ≤ R.locals) (hp : pc + 3 = pc') (k : W l Z n0 B R Q cells slots σ' pc' ls st) : W l Z n0 B R Q cells slots σ pc ls (.int 1 :: .int dp :: .ref b :: .int 0 :: .ref a :: st) := by
  subst hp hσ
  refine W.of2 (fun p e s m args below meth c T locs ⟨hx', hby, hml, hown, hnm, hZ, hrt, hlk⟩ X N S => ?_) k
  obtain ⟨-, c1, hc1, H1⟩ := S.get hi
  obtain ⟨hb2, c2, hc2, H2⟩ := S.get hj
  have hx0 : 0 < xs.length := (List.getElem?_eq_some_iff.mp hx).1
  obtain ⟨T', h', L, X', e', N', K', V', st'⟩ := RoadKit.cpA X hx' hZ.wide hown w1 w2 w3 w4 rfl (ia_arv hc1 H1 hxl) (ia_arv hc2 H2 hyl) (us := [.int x]) (Or.inl ⟨rfl, rfl⟩) (sp := 0) (dp := dp) (nn := 1) (by decide) h0 (by decide) (by rw [(ofNat_nn hxl).2]; show 0 + 1 ≤ _; omega) (by rw [(ofNat_nn hyl).2, hdn]; show d + 1 ≤ _; omega)
    (by show _ = [(xs.map Value.int).getD (0 + 0) (.int 0)]; rw [List.getD_eq_getElem?_getD, List.getElem?_map, hx]; rfl) (by rw [List.length_map, hdn]; show d + 1 ≤ _; omega) N hb2 (g := mkF m pc ls (.int 1 :: .int dp :: .ref b :: .int 0 :: .ref a :: st)) rfl (by rw [hml]; exact hsz) rfl (hb hby hd) hf (W := (st.map fun v => v.category).sum) (by show 2 * 0 + _ ≤ _; omega) hlo
  refine ⟨T', L, X', N', ?_, st'⟩
  obtain ⟨c3, A3, -, S3, -, H3, -⟩ := V'
  rw [e']
  refine S.keep1 hj K' A3.1 ⟨A3.2.1, A3.2.2, ?_⟩
  have hs3 : c3.slots.size = ys.length := by rw [S3, (ofNat_nn hyl).2]
  apply List.ext_getElem?
  intro q
  rw [Array.getElem?_toList]
  have e5 : (ys.map Value.int).take dp.toNatClampNeg ++ [Value.int x] ++ (ys.map Value.int).drop (dp.toNatClampNeg + (1 : Int32).toNatClampNeg) = (ys.set d x).map Value.int := by
    rw [List.map_set, List.set_eq_take_append_cons_drop, if_pos (by rw [List.length_map]; exact hl), hdn, List.append_assoc]; rfl
  rw [e5] at H3
  by_cases hq : q < c3.slots.size
  · rw [H3 q hq, List.getD_eq_getElem?_getD]
    have : q < ((ys.set d x).map Value.int).length := by rw [List.length_map, List.length_set]; omega
    rw [List.getElem?_eq_getElem this]; rfl
  · rw [Array.getElem?_eq_none (by omega), List.getElem?_eq_none (by rw [List.length_map, List.length_set]; omega)]
end Rules4
/-! OWN FRAMEWORK, part 3 (over the form with WarmedH): arrays of references, casts, old objects, function objects whose target is a constructor -/
def RA (Z : State) (C : String) (vs : List Value) (c : Cell) : Prop := Z.isArrayOf c (.object C) ∧ c.vm ≠ .unknown ∧ Ovr Z c.cls C ∧ c.slots.toList = vs
/-- the object at f is a function object of the shape sh, linked in the class called host -/
def FnZ (Z : State) (host : String) (sh : Lambda.Shape) (f : Addr) : Prop := ∃ cK : ClassId, LamKit.Made Z host sh cK ∧ LamKit.FnAt Z.heap f cK
section Rules5
variable {l : Launch} {Z : State} {n0 : Nat} {B : Bdy} {R : Room} {Q : Option Value → Asn → Prop} {cells slots : Nat} {σ : Asn} {pc pc' : Nat} {ls ls' : Array Slot} {st st' rest : List Value} {a0 : Array Value}
theorem W.more (cells' slots' : Nat) (hc : cells ≤ cells') (hs : slots ≤ slots') (k : W l Z n0 B R Q cells' slots' σ pc ls st) : W l Z n0 B R Q cells slots σ pc ls st :=
  fun p e s m args below meth c T locs C X N S => k p e s m args below meth c T locs C ⟨X.admits, X.cas, X.clock, X.frames, X.room, X.hears, X.method, X.code, X.here, X.tail, X.warmed, X.limits, X.bytes, X.same.mono hc hs⟩ N S
theorem W.newR (N : Nat) {idx : Nat} {C : String} {n : Int32} (cap : Nat) (hd : decode B.2.2.1 pc = .ok (.anewarray idx, 3)) (w1 : (Jvm.Cond.classLink B.1 idx C).before a0 Z = true) (w2 : (Jvm.Cond.arrayOver (.object C)).before a0 Z = true) (hn : ¬ n < 0) (hN : n.toNatClampNeg = N) (hcap : N ≤ cap) (h8 : cap * 8 ≤ 536870912)
    (hc : cells + 1 ≤ R.cells) (hs : slots + cap ≤ R.slots) (hp : pc + 3 = pc') (k : ∀ a, W l Z n0 B R Q (cells + 1) (slots + cap) ((a, RA Z C (List.replicate N .null)) :: σ) pc' ls (.ref a :: st)) : W l Z n0 B R Q cells slots σ pc ls (.int n :: st) := by
  subst hp hN
  intro p e s m args below meth c T locs C0 X N S
  obtain ⟨hx, hby, hml, hown, hnm, hZ, hrt, hlk⟩ := C0
  obtain ⟨T2, h2, cA, X2, e2, E2, A2, O2, st2⟩ := RoadKit.newR X hx hZ.wide hown w1 w2 rfl (g := mkF m pc ls (.int n :: st)) rfl (hb hby hd) rfl hn hcap h8 hc hs
  have S2 := S.new (P := RA Z C (List.replicate n.toNatClampNeg .null)) E2 A2.1 ⟨A2.2.1, A2.2.2, O2, by rw [newA_list]; rfl⟩
  obtain ⟨u, o, h1, h3⟩ := k T.heap.size p e s m args below meth c T2 locs ⟨hx, hby, hml, hown, hnm, hZ, hrt, hlk⟩ X2 N (by rw [e2]; exact S2)
  exact ⟨u, o, st2 u h1, h3⟩
theorem W.aaload (i n : Nat) {a : Addr} {C : String} {vs : List Value} {j : Int32} (v : Value) (hd : decode B.2.2.1 pc = .ok (.aaload, 1)) (hi : σ[i]? = some (a, RA Z C vs)) (h0 : ¬ j < 0) (hn : j.toNatClampNeg = n) (hv : vs[n]? = some v) (hp : pc + 1 = pc') (k : W l Z n0 B R Q cells slots σ pc' ls (v :: st)) : W l Z n0 B R Q cells slots σ pc ls (.int j :: .ref a :: st) := by
  subst hp
  refine W.of2 (fun p e s m args below meth c T locs ⟨hx, hby, hml, hown, hnm, hZ, hrt, hlk⟩ X N S => ?_) k
  obtain ⟨-, c1, hc1, H1, H2, H3, H4⟩ := S.get hi
  obtain ⟨g1, g2⟩ := slot_get (n := n) (v := v) H4 hv
  exact ⟨T, locs, X, N, S, fun t ht => X.aaload hx hc1 (State.isArrayOf_alike hZ.alike H1) rfl H2 (slot_in h0 hn g2) (by rw [hn]; exact g1) (g := mkF m pc ls (.int j :: .ref a :: st)) rfl rfl (hb hby hd) t ht⟩
theorem W.aastore (σ' : Asn) (i q n : Nat) {a y : Addr} {C D : String} {vs : List Value} {fs : List (String × String × String × Value)} {j : Int32} (hd : decode B.2.2.1 pc = .ok (.aastore, 1)) (hi : σ[i]? = some (a, RA Z C vs)) (hq : σ[q]? = some (y, ObjP Z D fs)) (wc : (Jvm.Cond.castable D C).before a0 Z = true) (h0 : ¬ j < 0) (hn : j.toNatClampNeg = n) (hx : n < vs.length) (hσ : σ.set i (a, RA Z C (vs.set n (.ref y))) = σ') (hp : pc + 1 = pc') (k : W l Z n0 B R Q cells slots σ' pc' ls st) : W l Z n0 B R Q cells slots σ pc ls (.ref y :: .int j :: .ref a :: st) := by
  subst hp hσ
  refine W.of2 (fun p e s m args below meth c T locs ⟨hx', hby, hml, hown, hnm, hZ, hrt, hlk⟩ X N S => ?_) k
  obtain ⟨ha, c1, hc1, H1, H2, H3, H4⟩ := S.get hi
  obtain ⟨-, c2, hc2, Hy⟩ := S.get hq
  have g2 : n < c1.slots.size := by rw [← Array.length_toList, H4]; exact hx
  have A : Arr Z T.heap a c1 (.object C) := ⟨hc1, H1, H2⟩
  obtain ⟨T', h', X', e', W', st'⟩ := RoadKit.stR X hx' hZ.wide rfl A (slot_in h0 hn g2) rfl (Sto.of A H3 (Ins.of_exa (exa_out Hy.1 hc2) wc)) (g := mkF m pc ls (.ref y :: .int j :: .ref a :: st)) rfl rfl (hb hby hd)
  rw [hn] at W'
  refine ⟨T', _, X', Fr.snoc X' N ha, ?_, st'⟩
  rw [e']
  exact S.set hi W' (fun c3 hc3 H => ⟨H.1, H.2.1, H.2.2.1, by rw [slot_set H.2.2.2]⟩)
theorem W.lenR (i : Nat) {a : Addr} {C : String} {vs : List Value} (v : Int32) (hd : decode B.2.2.1 pc = .ok (.arraylength, 1)) (hi : σ[i]? = some (a, RA Z C vs)) (hv : vs.length.toInt32 = v) (hp : pc + 1 = pc') (k : W l Z n0 B R Q cells slots σ pc' ls (.int v :: st)) : W l Z n0 B R Q cells slots σ pc ls (.ref a :: st) := by
  subst hp hv
  refine W.of2 (fun p e s m args below meth c T locs ⟨hx, hby, hml, hown, hnm, hZ, hrt, hlk⟩ X N S => ?_) k
  obtain ⟨-, c1, hc1, H1, H2, H3, H4⟩ := S.get hi
  refine ⟨T, locs, X, N, S, fun t ht => X.arraylength hx hc1 (State.isArrayOf_alike hZ.alike H1) (g := mkF m pc ls (.ref a :: st)) rfl rfl (hb hby hd) t ?_⟩
  have e : c1.slots.size = vs.length := by rw [← Array.length_toList, H4]
  rw [e]; exact ht
theorem W.cast (j : Nat) {idx : Nat} {a : Addr} {K : String} {fs : List (String × String × String × Value)} (hd : decode B.2.2.1 pc = .ok (.checkcast idx, 3)) (w : (Jvm.Cond.classLink B.1 idx K).before a0 Z = true) (hj : σ[j]? = some (a, ObjP Z K fs)) (hp : pc + 3 = pc') (k : W l Z n0 B R Q cells slots σ pc' ls (.ref a :: st)) : W l Z n0 B R Q cells slots σ pc ls (.ref a :: st) := by
  subst hp
  refine W.of2 (fun p e s m args below meth c T locs ⟨hx, hby, hml, hown, hnm, hZ, hrt, hlk⟩ X N S => ?_) k
  obtain ⟨-, c1, hc1, H⟩ := S.get hj
  obtain ⟨T', X', e', st'⟩ := RoadKit.castY X hx hZ.wide hown w rfl (Ins.self (exa_out H.1 hc1)) (g := mkF m pc ls (.ref a :: st)) rfl rfl (hb hby hd)
  exact ⟨T', locs, X', N, by rw [e']; exact S, st'⟩
/-! objects of the start: read alone -/
theorem W.getFO {idx : Nat} {a : Addr} {R0 O n d host : String} {v : Value} (F : Fld Z Z.heap a O n d v) (hd : decode B.2.2.1 pc = .ok (.getfield idx, 3)) (w : (Jvm.Cond.fieldLink B.1 idx R0 n d).before a0 Z = true ∨ (Jvm.Cond.fieldLinkNest B.1 idx R0 n d host).before a0 Z = true) (via : Via Z R0 O n d) (hp : pc + 3 = pc') (k : W l Z n0 B R Q cells slots σ pc' ls (v :: st)) : W l Z n0 B R Q cells slots σ pc ls (.ref a :: st) := by
  subst hp
  refine W.of2 (fun p e s m args below meth c T locs ⟨hx, hby, hml, hown, hnm, hZ, hrt, hlk⟩ X N S => ?_) k
  obtain ⟨T', X', e', st'⟩ := RoadKit.getF X hx hZ.wide hown w via rfl (F.ext S.1.2) (g := mkF m pc ls (.ref a :: st)) rfl rfl (hb hby hd)
  exact ⟨T', locs, X', N, by rw [e']; exact S, st'⟩
theorem W.lenO {a : Addr} {cl : Cell} {ty : FieldType} (v : Int32) (A : Arr Z Z.heap a cl ty) (hd : decode B.2.2.1 pc = .ok (.arraylength, 1)) (hv : cl.slots.size.toInt32 = v) (hp : pc + 1 = pc') (k : W l Z n0 B R Q cells slots σ pc' ls (.int v :: st)) : W l Z n0 B R Q cells slots σ pc ls (.ref a :: st) := by
  subst hp hv
  exact W.of2 (fun p e s m args below meth c T locs ⟨hx, hby, hml, hown, hnm, hZ, hrt, hlk⟩ X N S => ⟨T, locs, X, N, S, fun t ht => X.arraylength hx (A.ext S.1.2).1 (State.isArrayOf_alike hZ.alike A.2.1) (g := mkF m pc ls (.ref a :: st)) rfl rfl (hb hby hd) t ht⟩) k
theorem W.callFO {xi y : MethodName} {bytes : ByteArray} {maxL : Nat} {ret : Option FieldType} {rm : Room} {a : Addr} {C : String} {as : List Value} {Qc : Option Value → Asn → Prop} {i ct : Nat} {sg : MethodDescriptor} (E0 : Exa Z Z.heap a C) (hS : Sp l Z n0 y bytes maxL ret rm (.ref a :: as) σ Qc)
    (hd : decode B.2.2.1 pc = .ok (.invokeinterface i ct, 5)) (w1 : (Jvm.Cond.methodLink B.1 i xi).before a0 Z = true) (wd : (Jvm.Cond.declares xi).before a0 Z = true) (wf : (Jvm.Cond.interfaceMethod xi.cls xi.cls xi.name xi.desc).before a0 Z = true) (wsl : (Jvm.Cond.selects C xi y).before a0 Z = true) (w2 : (Jvm.Cond.instanceMethod y).before a0 Z = true)
    (wp : (Jvm.Cond.publicMethod y).before a0 Z = true) (wu : (Jvm.Cond.unhidden C xi.name xi.desc).before a0 Z = true) (wcs : (Jvm.Cond.castable C xi.cls).before a0 Z = true) (wz : (Jvm.Cond.initialized y.cls).before a0 Z = true) (wc : (Jvm.Cond.code y bytes maxL ret).before a0 Z = true)
    (hy : xi.cls ≠ "java/lang/invoke/MethodHandle" ∧ xi.cls ≠ "java/lang/invoke/VarHandle") (hsg : parseMethodDescriptor xi.desc = some sg) (hln : as.length = sg.parameters.length) (hst : st = as.reverse ++ .ref a :: rest)
    (hf : rm.frames + 1 ≤ R.frames) (hl : (rest.map fun v => v.category).sum + (maxL + 11) + rm.locals ≤ R.locals) (hc : cells + rm.cells ≤ R.cells) (hs : slots + rm.slots ≤ R.slots) (hsz : ls.size = B.2.2.2.1) (hp : pc + 5 = pc')
    (k : ∀ v σ', Qc v σ' → W l Z n0 B R Q (cells + rm.cells) (slots + rm.slots) σ' pc' ls (v.toList ++ rest)) : W l Z n0 B R Q cells slots σ pc ls st := by
  subst hp
  intro p e s m args below meth c T locs Cc X N S
  obtain ⟨hx, hby, hml, hown, hnm, hZ, hrt, hlk⟩ := Cc
  obtain ⟨cq, kq, qa, qb, qc⟩ := isOf hZ.wide rfl (E0.ext S.1.2)
  obtain ⟨v, _, ⟨T8, L8, k8, n8⟩, -, X8, ⟨Lc8, ⟨⟨σ', hQ8, hS8⟩, hF8⟩, l8, y8, z8⟩, st8⟩ := X.interfaceBack hx (xi := xi) (y := y) hown (mvT hZ.wide w1) (mvT hZ.wide wd) (mvT hZ.wide wf (by simp [Cond.onTables, Cond.keepsFace, Cond.keeps, Cond.steady, Cond.faceAtom]; exact hy)) (mvT hZ.wide wsl) (mvT hZ.wide w2) (mvT hZ.wide wp) (mvT hZ.wide wu) (mvT hZ.wide wcs) hy (W.back (a0 := a0) hS S hZ wc wz hf hl) qa qb qc (g := (mkF m pc ls st)) rfl (by rw [hml]; exact hsz) (Steps.refl _) (argsL := as) (rest := rest) (lenOf hsg hln) hst (by show 2 * 0 + _ ≤ _; omega) (hb hby hd) (fun _ _ => ⟨rfl, rfl, hc, hs⟩)
  dsimp only [Pt.U, Pt.locs, Pt.cells, Pt.slots] at X8 l8 y8 z8 st8 hS8
  subst l8 y8 z8
  obtain ⟨u, o, h1, h2⟩ := k v σ' hQ8 p e s m args below meth c T8 _ ⟨hx, hby, hml, hown, hnm, hZ, hrt, hlk⟩ X8 (N.app hF8) hS8
  exact ⟨u, o, st8.trans h1, h2⟩
/-! function objects -/
theorem W.site {idx : Nat} {sh : Lambda.Shape} (hd : decode B.2.2.1 pc = .ok (.invokedynamic idx, 5)) (w : (Jvm.Cond.lambdaSite ⟨B.1, B.2.1, B.2.2.2.2.2⟩ pc idx sh).before a0 Z = true) (hcap : sh.captured = []) (hsz : ls.size = B.2.2.2.1) (hl : (st.map fun v => v.category).sum + 3072 ≤ R.locals) (hp : pc + 5 = pc')
    (k : ∀ f, FnZ Z B.1 sh f → W l Z n0 B R Q cells slots σ pc' ls (.ref f :: st)) : W l Z n0 B R Q cells slots σ pc ls st := by
  subst hp
  intro p e s m args below meth c T locs C X N S
  have hA := C.2.2.2.2.2.1.alike
  obtain ⟨cK, one, hat⟩ := Cond.lambdaSite_spec w
  obtain ⟨mD, kD, cfD, i0, p0, lk, hmD, hkD, -, -, -, hfind, hmade, hcan, hl'⟩ := State.lambdaAt?_spec hat
  have hm : mD = m := by
    have q := State.methodNamed?_setVm (s := Z) hA ⟨B.1, B.2.1, B.2.2.2.2.2⟩
    rw [hmD] at q
    have q2 := C.2.2.2.2.2.2.2.2
    exact Option.some.inj ((show s.methodNamed? ⟨B.1, B.2.1, B.2.2.2.2.2⟩ = some mD from q).symm.trans q2)
  subst hm
  obtain ⟨kD', hkD', hnameD⟩ := className_of_methodNamed hmD
  cases hkD.symm.trans hkD'
  rcases hl' with ⟨a, cell, rfl, -, -, hcell, hcls, hvm, -⟩ | ⟨-, -, hne⟩
  · obtain ⟨kS, hkS, he⟩ := hA.2.2 _ _ hkD
    have hw : e.platform.lambdaLinkWords = 3072 := by rw [X.admits.platform]
    obtain ⟨u, o, h1, h2⟩ := k a ⟨cK, ⟨_, kD, hkD, hnameD, hmade, hcan⟩, cell, hcell, hcls, hvm⟩ p e s mD args below meth c T locs C X N S
    exact ⟨u, o, X.lambdaConstant C.1 (g := mkF mD pc ls st) rfl (by rw [C.2.2.1]; exact hsz) (hb C.2.1 hd) hkS (by rw [he]; exact hfind) (by rw [hw]; show 2 * 0 + (st.map fun v => v.category).sum + _ ≤ _; omega) h1, h2⟩
  · exact absurd hcap hne
theorem made_at {s : State} {host : String} {sh : Lambda.Shape} {cK : ClassId} (hZ : Z.WarmedH s.vm) (h : LamKit.Made Z host sh cK) : LamKit.Made s host sh cK := by
  obtain ⟨d, dk, q1, q2, q3, q4⟩ := h
  have hA := hZ.alike
  obtain ⟨dk', q1', he⟩ := hA.2.2 _ _ q1
  refine ⟨d, dk', q1', by rw [he]; exact q2, Lambda.isMade_warmer hZ q3, ?_⟩
  simp only [State.lambdaCallable, hA.findClass, hA.assignable, hA.superclasses, hA.declaredIn] at q4 ⊢
  exact q4
theorem obj_new {C : String} {cC : ClassId} {kZ : Class} {ty : Array FieldType} {fs : List (String × String × String × Value)} (h1 : Z.vm.findClass C = some cC) (h2 : Z.vm.classes[cC]? = some kZ) (ht : ty = kZ.instanceTypes) (hL : LaidL Z a0 C fs) (hN : (fs.map (fun f => f.2.1)).Nodup) :
    ObjP Z C fs { cls := cC, slots := ty.map defaultValue, vm := .none } := by
  subst ht
  refine ⟨⟨_, kZ, rfl, h1, h2, rfl, fun _ => by simp⟩, fun f hf => ?_, laid_pair hL hN⟩
  obtain ⟨L1, ty, q1, q2⟩ := laid_mem hL f hf
  rw [q2]
  obtain ⟨c1, k1, cf, kf, i, fd, a1, a2, a3, a4, a5, a6, -⟩ := L1.spec
  cases h1.symm.trans a1
  cases h2.symm.trans a2
  exact ⟨_, cf, kf, i, fd, rfl, a3, a4, by simp, rfl, a5, by simp [a6, (State.fieldFound?_type a3 q1).2]⟩
theorem push_ext (h : Heap) (c : Cell) : Ext h (h.push c) := ⟨by simp, fun a c' q => by rw [Array.getElem?_push_lt (Array.getElem?_eq_some_iff.mp q).1]; exact (Array.getElem?_eq_getElem _).symm.trans q⟩
theorem W.callLam {xi y : MethodName} {bytes : ByteArray} {maxL : Nat} {rm : Room} {f : Addr} {host C : String} {sh : Lambda.Shape} {fs : List (String × String × String × Value)} {Qc : Addr → Option Value → Asn → Prop} {i ct kk idx ci : Nat} {fcode : ByteArray} {sg sg' : MethodDescriptor}
    (hfn : FnZ Z host sh f) (hS : ∀ a, Sp l Z n0 y bytes maxL none rm [.ref a] ((a, ObjP Z C fs) :: σ) (Qc a)) (hv : ∀ a v σ', Qc a v σ' → v = none)
    (hd : decode B.2.2.1 pc = .ok (.invokeinterface i ct, 5)) (w1 : (Jvm.Cond.methodLink B.1 i xi).before a0 Z = true) (wd : (Jvm.Cond.declares xi).before a0 Z = true) (wf : (Jvm.Cond.interfaceMethod xi.cls xi.cls xi.name xi.desc).before a0 Z = true)
    (hok : LamKit.fwdOK sh host fcode 1 (some (.object "java/lang/Object")) idx ci = true) (d0 : decode fcode 0 = .ok (.new ci, 3)) (d3 : decode fcode 3 = .ok (.dup, 1)) (d4 : decode fcode 4 = .ok (.invokespecial idx, 3)) (d7 : decode fcode 7 = .ok (.areturn, 1))
    (hxi : xi.cls = sh.iface ∧ xi.name = sh.name ∧ xi.desc = sh.sam.toString) (hyy : y.cls = sh.implClass ∧ y.name = sh.implName ∧ y.desc = sh.implDesc.toString) (hyC : y.cls = C) (hyn : y.name = "<init>")
    (wi : (Jvm.Cond.instantiable C kk).before a0 Z = true) (wz : (Jvm.Cond.initialized C).before a0 Z = true) (w2 : (Jvm.Cond.instanceMethod y).before a0 Z = true) (wc : (Jvm.Cond.code y bytes maxL none).before a0 Z = true) (hL : LaidL Z a0 C fs) (hN : (fs.map (fun f => f.2.1)).Nodup)
    (hy : xi.cls ≠ "java/lang/invoke/MethodHandle" ∧ xi.cls ≠ "java/lang/invoke/VarHandle") (hy' : y.cls ≠ "java/lang/invoke/MethodHandle" ∧ y.cls ≠ "java/lang/invoke/VarHandle") (hsg : parseMethodDescriptor xi.desc = some sg) (hln : 0 = sg.parameters.length) (hsg' : parseMethodDescriptor y.desc = some sg') (hln' : 0 = sg'.parameters.length)
    (hf : rm.frames + 2 ≤ R.frames) (hl : (rest.map fun v => v.category).sum + (1 + 11) + (1 + (maxL + 11) + rm.locals) ≤ R.locals) (hc : cells + (1 + rm.cells) ≤ R.cells) (hs : slots + (kk + rm.slots) ≤ R.slots) (hsz : ls.size = B.2.2.2.1) (hp : pc + 5 = pc')
    (k : ∀ a v σ', Qc a v σ' → W l Z n0 B R Q (cells + (1 + rm.cells)) (slots + (kk + rm.slots)) σ' pc' ls (.ref a :: rest)) : W l Z n0 B R Q cells slots σ pc ls (.ref f :: rest) := by
  subst hp hyC
  intro p e s m args below meth c T locs Cc X N S
  obtain ⟨hx, hby, hml, hown, hnm, hZ, hrt, hlk⟩ := Cc
  obtain ⟨cK, hmd, cell, hcell0, hcls, hvmc⟩ := hfn
  subst hcls
  have hcell : T.heap[f]? = some cell := S.1.2.2 _ _ hcell0
  have wfs : (Jvm.Cond.interfaceMethod xi.cls xi.cls xi.name xi.desc).before args s = true := mvT hZ.wide wf (by simp [Cond.onTables, Cond.keepsFace, Cond.keeps, Cond.steady, Cond.faceAtom]; exact hy)
  obtain ⟨kK, methk, hkK, hmk, hpub, habs, hsel⟩ := LamKit.madeSelects (made_at hZ hmd) hok wfs hxi
  obtain ⟨r0, r, hn, hrm, hstR, hsigR⟩ := Cond.declares_spec (mvT (args := args) hZ.wide wd)
  obtain ⟨cL, kL, r1, hcL, hkL, hiL, -, -⟩ := Cond.interfaceMethod_spec wfs
  have hr0cls : r0.cls = cL := Option.some.inj ((findClass_of_methodNamed hn).symm.trans hcL)
  obtain ⟨hasg, hsel', hway⟩ := hsel r0 r hn hrm
  obtain ⟨vm₁, X₁, hstep₁⟩ := X.invokeinterface hx hown (mvT hZ.wide w1) hn hrm hstR (by rw [hr0cls]; exact hkL) hiL hy (a := f) (cell := cell) (kcell := kK) hcell (fun z h => by rw [hvmc] at h; cases h) hkK hasg
    (m' := ⟨cell.cls, 1⟩) (meth' := methk) (by rw [Launch.admits_selectMethod X.admits]; exact hsel') hmk hway hpub habs (g := mkF m pc ls (.ref f :: rest)) rfl (argsL := []) (rest := rest) (lenOf (L := []) hsg hln _ hsigR) rfl (hb hby hd)
  generalize hT1 : T.setVm vm₁ = T1 at X₁ hstep₁
  have hheap1 : T1.heap = T.heap := by rw [← hT1]; rfl
  have hW₁ : Z.WarmedH T1.vm := State.WarmedH.trans hZ X₁.warmed
  obtain ⟨d, dk, hdZ, hdn, hmade, -⟩ := hmd
  obtain ⟨kD₁, hkD₁, heD₁⟩ := hW₁.alike.2.2 _ _ hdZ
  obtain ⟨kK₁, tk₁, file₁, methk₁, ck₁, toy₁, t₁, nt, hkK₁, hpn₁, hfile₁, hidx₁, hnt₁, hmk₁, hck₁, hbytes₁, hml₁, hlk₁, -, hretk₁, htoy₁, htk₁, hlook₁, hready₁, hclsR₁⟩ := LamKit.made_static hok hkD₁ (by rw [heD₁]; exact hdn) (Lambda.isMade_warmer hW₁ hmade)
  -- the target
  obtain ⟨mT, methT, hmT, hmethT, hstT, habT⟩ := Cond.instanceMethod_spec w2
  obtain ⟨methT', cT, hmethT', hcT, -, -, -, -, -, hsigT⟩ := Cond.code_spec hmT wc
  cases hmethT.symm.trans hmethT'
  obtain ⟨hnameM, hdescM⟩ := name_of_methodNamed hmT hmethT
  have hfT : Z.vm.findClass y.cls = some mT.cls := findClass_of_methodNamed hmT
  have hfT₁ : T1.vm.findClass sh.implClass = some mT.cls := by rw [hW₁.alike.findClass, ← hyy.1]; exact hfT
  cases htoy₁.symm.trans hfT₁
  have ht₁ : t₁ = mT := by
    have h1 : (Z.setVm T1.vm).methodFound? y.cls y.name y.desc = some mT := by rw [State.methodFound?_setVm hW₁.alike]; exact State.methodFound?_of_named hmT hy'
    rw [hyy.1, hyy.2.1, hyy.2.2] at h1
    simp only [State.methodFound?, State.vm_setVm, hfT₁, htk₁, Option.bind_eq_bind, Option.bind_some] at h1
    rw [hlook₁] at h1
    exact Option.some.inj h1
  subst ht₁
  have hmethT₁ : T1.vm.method? t₁ = some methT := by rw [hW₁.alike.method?]; exact hmethT
  obtain ⟨cC, kZ, i1, i2, i3, i4, i5, i6⟩ := Cond.instantiable_spec wi
  cases i1.symm.trans hfT
  have hinZ : kZ.init = .initialized := Cond.initialized_spec hfT i2 wz
  obtain ⟨kx, hkx, hex⟩ := hW₁.alike.2.2 _ _ i2
  cases htk₁.symm.trans hkx
  have j3 : tk₁.kind = .ordinary := by rw [hex]; exact i3
  have j4 : (tk₁.isInterface || hasFlag tk₁.accessFlags Acc.abstract) = false := by rw [hex]; exact i4
  have j5 : tk₁.name ≠ "java/lang/Class" := by rw [hex]; exact i5
  have j6 : tk₁.instanceTypes = kZ.instanceTypes := by rw [hex]
  have j7 : tk₁.init = .initialized := by rw [hex]; exact hinZ
  have j8 : tk₁.instanceTypes.size = kk := by rw [j6]; exact i6
  have hfound : lookupSpecial T1.vm t₁.cls "<init>" methT.desc = .method t₁ := by
    rw [hW₁.alike.lookupSpecial, hdescM, ← hyn]; exact lookupSpecial_of_named hmT hmethT hstT
  have hpk : T1.plainMethod ⟨cell.cls, 1⟩ := State.plainMethod.of_name (fun k' hk' => by cases hkK₁.symm.trans hk'; exact hpn₁)
  obtain ⟨Y₀, hin⟩ := X₁.into (g := mkF m pc ls rest) rfl (by rw [hml]; exact hsz) (hb hby hd) #[.ref f] (R' := { frames := rm.frames + 1, cells := 1 + rm.cells, slots := kk + rm.slots, locals := 1 + (maxL + 11) + rm.locals }) hmk₁ hck₁ hlk₁ hpk hf (by rw [hml₁]; show 2 * 0 + (rest.map fun v => v.category).sum + (1 + 11) + (1 + (maxL + 11) + rm.locals) ≤ R.locals; omega) hc hs
  have hL0 : ∀ mk, entryFrame mk #[.ref f] 1 = mkF mk 0 #[.val (.ref f)] [] := fun mk => rfl
  rw [hml₁, hL0] at Y₀ hin
  generalize hU : (T1.setTop (mkF m pc ls rest)).pushFrame (.java (mkF ⟨cell.cls, 1⟩ 0 #[.val (.ref f)] [])) = U at Y₀ hin
  have hvmU : U.vm = T1.vm := by rw [← hU]; rfl
  have hheapU : U.heap = T.heap := by rw [← hU, ← hheap1]; rfl
  have Y₁ := Y₀.pushed { cls := t₁.cls, slots := tk₁.instanceTypes.map defaultValue, vm := .none }
  generalize hU1 : U.pushCell { cls := t₁.cls, slots := tk₁.instanceTypes.map defaultValue, vm := .none } = U1 at Y₁
  have hvmU1 : U1.vm = T1.vm := by rw [← hU1]; exact hvmU
  have hheapU1 : U1.heap = T.heap.push { cls := t₁.cls, slots := tk₁.instanceTypes.map defaultValue, vm := .none } := by rw [← hU1, ← hheapU]; rfl
  have S1 : Sep Z n0 U1.heap ((T.heap.size, ObjP Z y.cls fs) :: σ) := by
    rw [hheapU1]
    exact S.new (push_ext _ _) (by simp) (obj_new i1 i2 j6 hL hN)
  generalize hs' : T1.calling (mkF m pc ls rest) ⟨cell.cls, 1⟩ #[.ref f] = s' at Y₀ Y₁
  have hZ' : Z.WarmedH s'.vm := by rw [← hs']; exact hW₁
  have hnamedU : U1.methodNamed? y = some t₁ := by
    have q : (Z.setVm T1.vm).methodNamed? y = some t₁ := by rw [State.methodNamed?_setVm hW₁.alike]; exact hmT
    rw [← hvmU1] at q; exact q
  have hsz2 : (tk₁.instanceTypes.map defaultValue).size = kk := by rw [Array.size_map]; exact j8
  obtain ⟨v, ⟨U2, L2, c2, n2⟩, Y₂, ⟨L, ⟨⟨σ', hQ2, hS2⟩, hF2⟩, e1, e2, e3⟩, hsteps⟩ := W.back (R := { frames := rm.frames + 1, cells := 1 + rm.cells, slots := kk + rm.slots, locals := 1 + (maxL + 11) + rm.locals }) (a0 := a0) (len := 3) (Wd := 1) (below := .java (mkF m pc ls rest) :: below) (p := p) (e := e) (s := s') (args := #[.ref f]) (hS T.heap.size) S1 hZ' wc wz (Nat.le_refl _) (Nat.le_refl _)
    ⟨cell.cls, 1⟩ methk₁ ck₁ ⟨U1, [], 0 + 1, 0 + (tk₁.instanceTypes.map defaultValue).size⟩ (mkF ⟨cell.cls, 1⟩ 4 #[.val (.ref f)] [.ref T.heap.size]) (.invokespecial idx) t₁ #[.ref T.heap.size] Y₁ rfl (by rw [hml₁]; rfl) (by rw [hbytes₁]; exact d4) (Nat.le_refl _) hnamedU ⟨rfl, rfl, by show 0 + 1 + rm.cells ≤ 1 + rm.cells; omega, by show 0 + _ + rm.slots ≤ kk + rm.slots; rw [hsz2]; omega⟩
  dsimp only [Pt.U, Pt.locs, Pt.cells, Pt.slots] at Y₂ e1 e2 e3 hS2 hsteps
  obtain rfl := hv _ _ _ hQ2
  subst e1 e2 e3
  obtain ⟨fr, hleave, -, hended, hWe, hsame⟩ := Y₂.leave (v := some (.ref T.heap.size)) (fun h => by rw [hretk₁] at h; cases h) hlk₁
  subst hs'
  obtain ⟨T', X', -, -, ht⟩ := X₁.outOf (g := mkF m pc ls rest) rfl (hb hby hd) hended hWe hsame
  have hheap' : T'.heap = U2.heap := by
    have q := congrArg State.heap ht
    exact (show U2.heap = T'.heap from q).symm
  have X9 : Stand p l e R s m args below meth c T' (locs ++ L2) (cells + (1 + rm.cells)) (slots + (kk + rm.slots)) := by
    have z1 : cells + (0 + 1 + rm.cells) = cells + (1 + rm.cells) := by omega
    have z2 : slots + (0 + (tk₁.instanceTypes.map defaultValue).size + rm.slots) = slots + (kk + rm.slots) := by rw [hsz2]; omega
    rw [← z1, ← z2]; exact X'
  obtain ⟨u, o, h1, h2⟩ := k T.heap.size none σ' hQ2 p e s m args below meth c T' _ ⟨hx, hby, hml, hown, hnm, hZ, hrt, hlk⟩ X9 (N.app hF2) (by rw [hheap']; exact hS2)
  refine ⟨u, o, hstep₁ _ fun acts => ?_, h2⟩
  show Steps p.tables e below (doInvoke e (T1.setTop (mkF m pc ls rest)) acts ⟨cell.cls, 1⟩ #[.ref f]).1 u
  rw [hin acts]
  refine Steps.trans ?_ h1
  have ht' : U2.setFrames fr = T'.setTop (mkF m (pc + 5) ls (.ref T.heap.size :: rest)) := ht
  rw [← ht']
  refine Steps.weaken (mid := [.java (mkF m pc ls rest)]) ?_
  have hsU : U.topJava?.isSome := Y₀.here.top
  have hsU1 : U1.topJava?.isSome := Y₁.here.top
  obtain ⟨r1, r2⟩ := Y₀.heapHas (a := 1) (b := tk₁.instanceTypes.size) (by show 0 + 1 ≤ 1 + rm.cells; omega) (by show 0 + _ ≤ kk + rm.slots; omega)
  have q0 : decode ck₁.code 0 = .ok (.new ci, 3) := by rw [hbytes₁]; exact d0
  have q3 : decode ck₁.code 3 = .ok (.dup, 1) := by rw [hbytes₁]; exact d3
  have q4 : decode ck₁.code 4 = .ok (.invokespecial idx, 3) := by rw [hbytes₁]; exact d4
  have q7 : decode ck₁.code 7 = .ok (.areturn, 1) := by rw [hbytes₁]; exact d7
  show Steps p.tables e (.java (mkF m pc ls rest) :: below) (U.setTop { method := ⟨cell.cls, 1⟩, pc := 0, locals := #[.val (.ref f)], stack := [], locked := none }) _
  jvm_step Y₀.here [hx, q0, new.wp_ready (e := e) (s := U) (k := tk₁) (f := { method := ⟨cell.cls, 1⟩, pc := 0, locals := #[.val (.ref f)], stack := [], locked := none }) hsU (by rw [hvmU]; exact hclsR₁) (by rw [hvmU]; exact htk₁) j3 j7 j4 j5]
  refine ⟨by omega, by omega, ?_⟩
  rw [hU1, hheapU]
  jvm_step Y₁.here [hsU1, hx, q3, Value.category]
  jvm_step Y₁.here [hsU1, hx, q4, invokespecial.wp_init (e := e) (s := U1) (k := tk₁) (meth := methT) (m := t₁) (a := T.heap.size) (args := []) (rest := [.ref T.heap.size])
    (f := { method := ⟨cell.cls, 1⟩, pc := 4, locals := #[.val (.ref f)], stack := [.ref T.heap.size, .ref T.heap.size], locked := none })
    hsU1 ⟨kK₁, file₁, ci, nt, by rw [hvmU1]; exact hkK₁, hfile₁, Or.inl hidx₁, by rw [hvmU1]; exact hclsR₁⟩ (by rw [hvmU1]; exact hready₁) (by rw [hvmU1]; exact htk₁) (by rw [hvmU1]; exact hmethT₁) (by rw [hnameM]; exact hyn) hstT habT (by rw [hvmU1]; exact hfound) (lenOf (L := []) hsg' hln' _ hsigT) rfl]
  intro acts'
  rw [doInvoke_state]
  refine Steps.trans hsteps ?_
  exact Y₂.areturnOut hx (pc := 7) rfl hretk₁ rfl (by rw [hbytes₁]; exact d7) hleave
end Rules5
theorem wd {L : List Jvm.Cond} {a0 : Array Value} {Z : State} (hw : ∀ d ∈ L, d.before a0 Z = true) (i : Nat) {d : Jvm.Cond} (h : L[i]? = some d) : d.before a0 Z = true := hw d (List.mem_of_getElem? h)
/-- it returns just this, and the heap is known as this -/
abbrev Ret (v : Option Value) (τ : Asn) : Option Value → Asn → Prop := fun v' σ' => v' = v ∧ σ' = τ
abbrev own_Act (Z : State) (v0 : Value) (v1 : Value) (v2 : Value) (v3 : Value) : Cell → Prop := ObjP Z "com/example/letterhead/letterhead/LetterBuffer$Action" [("com/example/letterhead/letterhead/LetterBuffer$Action", "names", "Lcom/example/letterhead/letterhead/LetterBuffer$Buffers;", v0), ("com/example/letterhead/letterhead/LetterBuffer$Action", "places", "Lcom/example/letterhead/letterhead/LetterBuffer$Buffers;", v1), ("com/example/letterhead/letterhead/LetterBuffer$Action", "date", "Lcom/example/letterhead/letterhead/LetterBuffer$Part;", v2), ("com/example/letterhead/letterhead/LetterBuffer$Action", "dated", "Z", v3)]
abbrev own_Buf (Z : State) (v0 : Value) (v1 : Value) (v2 : Value) : Cell → Prop := ObjP Z "com/example/letterhead/letterhead/LetterBuffer$Buffers" [("com/example/letterhead/letterhead/LetterBuffer$Buffers", "kept", "[Ljava/lang/Object;", v0), ("com/example/letterhead/letterhead/LetterBuffer$Buffers", "make", "Ljava/util/function/Supplier;", v1), ("com/example/letterhead/letterhead/LetterBuffer$Buffers", "size", "I", v2)]
abbrev own_Part (Z : State) (v0 : Value) (v1 : Value) : Cell → Prop := ObjP Z "com/example/letterhead/letterhead/LetterBuffer$Part" [("com/example/letterhead/letterhead/LetterBuffer$Part", "values", "[Ljava/lang/String;", v0), ("com/example/letterhead/letterhead/LetterBuffer$Part", "text", "[C", v1)]
abbrev own_P (Z : State) : Cell → Prop := ObjP Z "com/example/letterhead/letterhead/LetterBuffer$Part" []
abbrev own_sh : Lambda.Shape := (Lambda.Shape.mk "java/util/function/Supplier" "get" (MethodDescriptor.mk ([] : List FieldType) (Option.some (FieldType.object "java/lang/Object"))) ([] : List FieldType) 8 "com/example/letterhead/letterhead/LetterBuffer$Part" "<init>" (MethodDescriptor.mk ([] : List FieldType) (Option.none : Option FieldType)) false (MethodDescriptor.mk ([] : List FieldType) (Option.some (FieldType.object "com/example/letterhead/letterhead/LetterBuffer$Part"))))
def own_fcode : ByteArray := ⟨#[0xbb, 0x00, 0x0e, 0x59, 0xb7, 0x00, 0x0f, 0xb0]⟩
theorem own_fwd : LamKit.fwdOK own_sh "com/example/letterhead/letterhead/LetterBuffer$Action" own_fcode 1 (some (.object "java/lang/Object")) 15 14 = true := by decide +kernel
theorem own_f0 : decode own_fcode 0 = .ok (.new 14, 3) := by decide +kernel
theorem own_f3 : decode own_fcode 3 = .ok (.dup, 1) := by decide +kernel
theorem own_f4 : decode own_fcode 4 = .ok (.invokespecial 15, 3) := by decide +kernel
theorem own_f7 : decode own_fcode 7 = .ok (.areturn, 1) := by decide +kernel
/-- the static list as the case says it -/
def own_Att (Z : State) (b e9 : Addr) : Prop := Sta Z Z.heap "com/example/letterhead/letterhead/LetterBuffer$Part" "ATTRIBUTES" "Ljava/util/List;" (.ref b) ∧ Exa Z Z.heap b "java/util/ImmutableCollections$ListN" ∧ Fld Z Z.heap b "java/util/ImmutableCollections$ListN" "elements" "[Ljava/lang/Object;" (.ref e9) ∧ ∃ cl, Arr Z Z.heap e9 cl (.object "java/lang/Object") ∧ cl.slots.size.toInt32 = 8
/-- the buffers' next place is in range and empty -/
def own_ok (n : Int32) (vs : List Value) (k : Nat) : Prop := ¬ n < 0 ∧ n.toNatClampNeg = k ∧ vs.length = 4 ∧ k < 4 ∧ vs[k]? = some .null ∧ n ≠ 4 ∧ n < n + 1
theorem own_back (n : Int32) : n + 1 - 1 = n := by
  apply Int32.toInt_inj.mp
  have q1 := c_iadd n 1
  have q2 := c_isub (n + 1) 1
  have r := rng32 n
  have r1 := rng32 (n + 1)
  have r2 := rng32 (n + 1 - 1)
  have e1 : (1 : Int32).toInt = 1 := by decide
  rw [e1] at q1 q2
  omega
theorem d1_0 : decode prog_37_method_1_code 0 = .ok (.aload_n 0, 1) := by decide +kernel
theorem d1_1 : decode prog_37_method_1_code 1 = .ok (.invokespecial 1, 3) := by decide +kernel
theorem d1_4 : decode prog_37_method_1_code 4 = .ok (.aload_n 0, 1) := by decide +kernel
theorem d1_5 : decode prog_37_method_1_code 5 = .ok (.new 7, 3) := by decide +kernel
theorem d1_8 : decode prog_37_method_1_code 8 = .ok (.dup, 1) := by decide +kernel
theorem d1_9 : decode prog_37_method_1_code 9 = .ok (.invokedynamic 9, 5) := by decide +kernel
theorem d1_14 : decode prog_37_method_1_code 14 = .ok (.invokespecial 13, 3) := by decide +kernel
theorem d1_17 : decode prog_37_method_1_code 17 = .ok (.putfield 16, 3) := by decide +kernel
theorem d1_20 : decode prog_37_method_1_code 20 = .ok (.aload_n 0, 1) := by decide +kernel
theorem d1_21 : decode prog_37_method_1_code 21 = .ok (.new 7, 3) := by decide +kernel
theorem d1_24 : decode prog_37_method_1_code 24 = .ok (.dup, 1) := by decide +kernel
theorem d1_25 : decode prog_37_method_1_code 25 = .ok (.invokedynamic 9, 5) := by decide +kernel
theorem d1_30 : decode prog_37_method_1_code 30 = .ok (.invokespecial 13, 3) := by decide +kernel
theorem d1_33 : decode prog_37_method_1_code 33 = .ok (.putfield 22, 3) := by decide +kernel
theorem d1_36 : decode prog_37_method_1_code 36 = .ok (.aload_n 0, 1) := by decide +kernel
theorem d1_37 : decode prog_37_method_1_code 37 = .ok (.new 25, 3) := by decide +kernel
theorem d1_40 : decode prog_37_method_1_code 40 = .ok (.dup, 1) := by decide +kernel
theorem d1_41 : decode prog_37_method_1_code 41 = .ok (.invokespecial 27, 3) := by decide +kernel
theorem d1_44 : decode prog_37_method_1_code 44 = .ok (.putfield 28, 3) := by decide +kernel
theorem d1_47 : decode prog_37_method_1_code 47 = .ok (.return_, 1) := by decide +kernel
theorem d3_0 : decode prog_38_method_1_code 0 = .ok (.aload_n 0, 1) := by decide +kernel
theorem d3_1 : decode prog_38_method_1_code 1 = .ok (.invokespecial 1, 3) := by decide +kernel
theorem d3_4 : decode prog_38_method_1_code 4 = .ok (.aload_n 0, 1) := by decide +kernel
theorem d3_5 : decode prog_38_method_1_code 5 = .ok (.iconst 4, 1) := by decide +kernel
theorem d3_6 : decode prog_38_method_1_code 6 = .ok (.anewarray 2, 3) := by decide +kernel
theorem d3_9 : decode prog_38_method_1_code 9 = .ok (.putfield 7, 3) := by decide +kernel
theorem d3_12 : decode prog_38_method_1_code 12 = .ok (.aload_n 0, 1) := by decide +kernel
theorem d3_13 : decode prog_38_method_1_code 13 = .ok (.aload_n 1, 1) := by decide +kernel
theorem d3_14 : decode prog_38_method_1_code 14 = .ok (.putfield 13, 3) := by decide +kernel
theorem d3_17 : decode prog_38_method_1_code 17 = .ok (.return_, 1) := by decide +kernel
theorem d4_0 : decode prog_39_method_1_code 0 = .ok (.aload_n 0, 1) := by decide +kernel
theorem d4_1 : decode prog_39_method_1_code 1 = .ok (.invokespecial 1, 3) := by decide +kernel
theorem d4_4 : decode prog_39_method_1_code 4 = .ok (.aload_n 0, 1) := by decide +kernel
theorem d4_5 : decode prog_39_method_1_code 5 = .ok (.getstatic 7, 3) := by decide +kernel
theorem d4_8 : decode prog_39_method_1_code 8 = .ok (.invokeinterface 13 1, 5) := by decide +kernel
theorem d4_13 : decode prog_39_method_1_code 13 = .ok (.anewarray 19, 3) := by decide +kernel
theorem d4_16 : decode prog_39_method_1_code 16 = .ok (.putfield 21, 3) := by decide +kernel
theorem d4_19 : decode prog_39_method_1_code 19 = .ok (.aload_n 0, 1) := by decide +kernel
theorem d4_20 : decode prog_39_method_1_code 20 = .ok (.bipush 64, 2) := by decide +kernel
theorem d4_22 : decode prog_39_method_1_code 22 = .ok (.newarray .char, 2) := by decide +kernel
theorem d4_24 : decode prog_39_method_1_code 24 = .ok (.putfield 25, 3) := by decide +kernel
theorem d4_27 : decode prog_39_method_1_code 27 = .ok (.return_, 1) := by decide +kernel
theorem d5_0 : decode jdk_45_method_3_code 0 = .ok (.aload_n 0, 1) := by decide +kernel
theorem d5_1 : decode jdk_45_method_3_code 1 = .ok (.getfield 7, 3) := by decide +kernel
theorem d5_4 : decode jdk_45_method_3_code 4 = .ok (.arraylength, 1) := by decide +kernel
theorem d5_5 : decode jdk_45_method_3_code 5 = .ok (.ireturn, 1) := by decide +kernel
theorem d6_0 : decode prog_37_method_11_code 0 = .ok (.aload_n 0, 1) := by decide +kernel
theorem d6_1 : decode prog_37_method_11_code 1 = .ok (.getfield 49, 3) := by decide +kernel
theorem d6_4 : decode prog_37_method_11_code 4 = .ok (.ifCond .eq 10, 3) := by decide +kernel
theorem d6_7 : decode prog_37_method_11_code 7 = .ok (.aload_n 0, 1) := by decide +kernel
theorem d6_8 : decode prog_37_method_11_code 8 = .ok (.getfield 28, 3) := by decide +kernel
theorem d6_11 : decode prog_37_method_11_code 11 = .ok (.goto 4, 3) := by decide +kernel
theorem d6_14 : decode prog_37_method_11_code 14 = .ok (.aconst_null, 1) := by decide +kernel
theorem d6_15 : decode prog_37_method_11_code 15 = .ok (.areturn, 1) := by decide +kernel
theorem d7_0 : decode prog_37_method_3_code 0 = .ok (.aload_n 0, 1) := by decide +kernel
theorem d7_1 : decode prog_37_method_3_code 1 = .ok (.getfield 16, 3) := by decide +kernel
theorem d7_4 : decode prog_37_method_3_code 4 = .ok (.invokevirtual 53, 3) := by decide +kernel
theorem d7_7 : decode prog_37_method_3_code 7 = .ok (.checkcast 25, 3) := by decide +kernel
theorem d7_10 : decode prog_37_method_3_code 10 = .ok (.areturn, 1) := by decide +kernel
theorem d8_0 : decode prog_38_method_2_code 0 = .ok (.aload_n 0, 1) := by decide +kernel
theorem d8_1 : decode prog_38_method_2_code 1 = .ok (.getfield 17, 3) := by decide +kernel
theorem d8_4 : decode prog_38_method_2_code 4 = .ok (.aload_n 0, 1) := by decide +kernel
theorem d8_5 : decode prog_38_method_2_code 5 = .ok (.getfield 7, 3) := by decide +kernel
theorem d8_8 : decode prog_38_method_2_code 8 = .ok (.arraylength, 1) := by decide +kernel
theorem d8_9 : decode prog_38_method_2_code 9 = .ok (.if_icmp .eq 15, 3) := by decide +kernel
theorem d8_12 : decode prog_38_method_2_code 12 = .ok (.aload_n 0, 1) := by decide +kernel
theorem d8_13 : decode prog_38_method_2_code 13 = .ok (.getfield 7, 3) := by decide +kernel
theorem d8_16 : decode prog_38_method_2_code 16 = .ok (.aload_n 0, 1) := by decide +kernel
theorem d8_17 : decode prog_38_method_2_code 17 = .ok (.getfield 17, 3) := by decide +kernel
theorem d8_20 : decode prog_38_method_2_code 20 = .ok (.aaload, 1) := by decide +kernel
theorem d8_21 : decode prog_38_method_2_code 21 = .ok (.ifnonnull 7, 3) := by decide +kernel
theorem d8_24 : decode prog_38_method_2_code 24 = .ok (.aload_n 0, 1) := by decide +kernel
theorem d8_25 : decode prog_38_method_2_code 25 = .ok (.invokevirtual 21, 3) := by decide +kernel
theorem d8_28 : decode prog_38_method_2_code 28 = .ok (.aload_n 0, 1) := by decide +kernel
theorem d8_29 : decode prog_38_method_2_code 29 = .ok (.dup, 1) := by decide +kernel
theorem d8_30 : decode prog_38_method_2_code 30 = .ok (.getfield 17, 3) := by decide +kernel
theorem d8_33 : decode prog_38_method_2_code 33 = .ok (.iconst 1, 1) := by decide +kernel
theorem d8_34 : decode prog_38_method_2_code 34 = .ok (.iadd, 1) := by decide +kernel
theorem d8_35 : decode prog_38_method_2_code 35 = .ok (.putfield 17, 3) := by decide +kernel
theorem d8_38 : decode prog_38_method_2_code 38 = .ok (.aload_n 0, 1) := by decide +kernel
theorem d8_39 : decode prog_38_method_2_code 39 = .ok (.aload_n 0, 1) := by decide +kernel
theorem d8_40 : decode prog_38_method_2_code 40 = .ok (.getfield 17, 3) := by decide +kernel
theorem d8_43 : decode prog_38_method_2_code 43 = .ok (.iconst 1, 1) := by decide +kernel
theorem d8_44 : decode prog_38_method_2_code 44 = .ok (.isub, 1) := by decide +kernel
theorem d8_45 : decode prog_38_method_2_code 45 = .ok (.invokevirtual 24, 3) := by decide +kernel
theorem d8_48 : decode prog_38_method_2_code 48 = .ok (.areturn, 1) := by decide +kernel
theorem d9_0 : decode prog_38_method_3_code 0 = .ok (.aload_n 0, 1) := by decide +kernel
theorem d9_1 : decode prog_38_method_3_code 1 = .ok (.getfield 17, 3) := by decide +kernel
theorem d9_4 : decode prog_38_method_3_code 4 = .ok (.aload_n 0, 1) := by decide +kernel
theorem d9_5 : decode prog_38_method_3_code 5 = .ok (.getfield 7, 3) := by decide +kernel
theorem d9_8 : decode prog_38_method_3_code 8 = .ok (.arraylength, 1) := by decide +kernel
theorem d9_9 : decode prog_38_method_3_code 9 = .ok (.if_icmp .ne 20, 3) := by decide +kernel
theorem d9_29 : decode prog_38_method_3_code 29 = .ok (.aload_n 0, 1) := by decide +kernel
theorem d9_30 : decode prog_38_method_3_code 30 = .ok (.getfield 7, 3) := by decide +kernel
theorem d9_33 : decode prog_38_method_3_code 33 = .ok (.aload_n 0, 1) := by decide +kernel
theorem d9_34 : decode prog_38_method_3_code 34 = .ok (.getfield 17, 3) := by decide +kernel
theorem d9_37 : decode prog_38_method_3_code 37 = .ok (.aaload, 1) := by decide +kernel
theorem d9_38 : decode prog_38_method_3_code 38 = .ok (.ifnonnull 21, 3) := by decide +kernel
theorem d9_41 : decode prog_38_method_3_code 41 = .ok (.aload_n 0, 1) := by decide +kernel
theorem d9_42 : decode prog_38_method_3_code 42 = .ok (.getfield 7, 3) := by decide +kernel
theorem d9_45 : decode prog_38_method_3_code 45 = .ok (.aload_n 0, 1) := by decide +kernel
theorem d9_46 : decode prog_38_method_3_code 46 = .ok (.getfield 17, 3) := by decide +kernel
theorem d9_49 : decode prog_38_method_3_code 49 = .ok (.aload_n 0, 1) := by decide +kernel
theorem d9_50 : decode prog_38_method_3_code 50 = .ok (.getfield 13, 3) := by decide +kernel
theorem d9_53 : decode prog_38_method_3_code 53 = .ok (.invokeinterface 34 1, 5) := by decide +kernel
theorem d9_58 : decode prog_38_method_3_code 58 = .ok (.aastore, 1) := by decide +kernel
theorem d9_59 : decode prog_38_method_3_code 59 = .ok (.return_, 1) := by decide +kernel
theorem d10_0 : decode prog_38_method_5_code 0 = .ok (.iload_n 1, 1) := by decide +kernel
theorem d10_1 : decode prog_38_method_5_code 1 = .ok (.aload_n 0, 1) := by decide +kernel
theorem d10_2 : decode prog_38_method_5_code 2 = .ok (.getfield 17, 3) := by decide +kernel
theorem d10_5 : decode prog_38_method_5_code 5 = .ok (.if_icmp .lt 12, 3) := by decide +kernel
theorem d10_17 : decode prog_38_method_5_code 17 = .ok (.aload_n 0, 1) := by decide +kernel
theorem d10_18 : decode prog_38_method_5_code 18 = .ok (.getfield 7, 3) := by decide +kernel
theorem d10_21 : decode prog_38_method_5_code 21 = .ok (.iload_n 1, 1) := by decide +kernel
theorem d10_22 : decode prog_38_method_5_code 22 = .ok (.aaload, 1) := by decide +kernel
theorem d10_23 : decode prog_38_method_5_code 23 = .ok (.areturn, 1) := by decide +kernel
theorem d11_0 : decode prog_37_method_4_code 0 = .ok (.aload_n 0, 1) := by decide +kernel
theorem d11_1 : decode prog_37_method_4_code 1 = .ok (.getfield 22, 3) := by decide +kernel
theorem d11_4 : decode prog_37_method_4_code 4 = .ok (.invokevirtual 53, 3) := by decide +kernel
theorem d11_7 : decode prog_37_method_4_code 7 = .ok (.checkcast 25, 3) := by decide +kernel
theorem d11_10 : decode prog_37_method_4_code 10 = .ok (.areturn, 1) := by decide +kernel
theorem d12_0 : decode prog_37_method_5_code 0 = .ok (.aload_n 0, 1) := by decide +kernel
theorem d12_1 : decode prog_37_method_5_code 1 = .ok (.iconst 1, 1) := by decide +kernel
theorem d12_2 : decode prog_37_method_5_code 2 = .ok (.putfield 49, 3) := by decide +kernel
theorem d12_5 : decode prog_37_method_5_code 5 = .ok (.aload_n 0, 1) := by decide +kernel
theorem d12_6 : decode prog_37_method_5_code 6 = .ok (.getfield 28, 3) := by decide +kernel
theorem d12_9 : decode prog_37_method_5_code 9 = .ok (.areturn, 1) := by decide +kernel
theorem pd0 : parseMethodDescriptor "()I" = some ⟨[], some .int⟩ := by decide +kernel
theorem pd1 : parseMethodDescriptor "(Ljava/util/function/Supplier;)V" = some ⟨[(.object "java/util/function/Supplier")], none⟩ := by decide +kernel
theorem pd2 : parseMethodDescriptor "()V" = some ⟨[], none⟩ := by decide +kernel
theorem pd3 : parseMethodDescriptor "()Ljava/lang/Object;" = some ⟨[], some (.object "java/lang/Object")⟩ := by decide +kernel
theorem pd4 : parseMethodDescriptor "(I)Ljava/lang/Object;" = some ⟨[.int], some (.object "java/lang/Object")⟩ := by decide +kernel
theorem pd5 : parseMethodDescriptor "()Lcom/example/letterhead/letterhead/LetterBuffer$Part;" = some ⟨[], some (.object "com/example/letterhead/letterhead/LetterBuffer$Part")⟩ := by decide +kernel
theorem pn_mSize : plainFor (⟨"java/util/ImmutableCollections$ListN", "size", "()I"⟩ : MethodName) = true := by first | (refine plainFor_of_name ?_; simp [plainName, overriddenIn]; done) | (refine plainFor_of_name ?_; decide +kernel) | decide +kernel
set_option maxRecDepth 65536 in
set_option maxHeartbeats 40000000 in
theorem mSize (l : Launch) (Z : State) (n0 : Nat) (a0 : Array Value) (hw : ∀ d ∈ tables_1, d.before a0 Z = true) (F : Asn) (b e9 : Addr) (hA : own_Att Z b e9) : Sp l Z n0 (⟨"java/util/ImmutableCollections$ListN", "size", "()I"⟩ : MethodName) jdk_45_method_3_code 1 (some .int) ({ frames := 0, cells := 0, slots := 0, locals := 0 } : Room) [(.ref b)] (F) (Ret (some (.int 8)) F) := by
  refine Sp.of (ls := #[.val (.ref b)]) pn_mSize (fun m => by first | (simp [entryFrame, mkF, argsToLocals, Value.category]; done) | rfl) ?_
  show W _ _ _ _ _ _ 0 0 (F) 0 #[.val (.ref b)] []
  refine W.aloadN d5_0 (pc' := 1) rfl rfl rfl ?_
  obtain ⟨-, -, hA3, cl, hA4, hA5⟩ := hA
  refine W.getFO hA3 d5_1 (host := "") (Or.inl (wd hw 49 rfl)) Via.refl (pc' := 4) rfl ?_
  refine W.lenO (8 : Int32) hA4 d5_4 hA5 (pc' := 5) rfl ?_
  exact W.retI d5_5 rfl (by decide) (by decide) ⟨rfl, rfl⟩
theorem pn_mPart : plainFor (⟨"com/example/letterhead/letterhead/LetterBuffer$Part", "<init>", "()V"⟩ : MethodName) = true := by first | (refine plainFor_of_name ?_; simp [plainName, overriddenIn]; done) | (refine plainFor_of_name ?_; decide +kernel) | decide +kernel
set_option maxRecDepth 65536 in
set_option maxHeartbeats 40000000 in
theorem mPart (l : Launch) (Z : State) (n0 : Nat) (a0 : Array Value) (hw : ∀ d ∈ tables_1, d.before a0 Z = true) (F : Asn) (q : Addr) (b e9 : Addr) (hA : own_Att Z b e9) : Sp l Z n0 (⟨"com/example/letterhead/letterhead/LetterBuffer$Part", "<init>", "()V"⟩ : MethodName) prog_39_method_1_code 1 none ({ frames := 1, cells := 2, slots := 72, locals := 13 } : Room) [(.ref q)] ((q, (own_Part Z .null .null)) :: F) (Ret none ((q, own_P Z) :: F)) := by
  refine Sp.of (ls := #[.val (.ref q)]) pn_mPart (fun m => by first | (simp [entryFrame, mkF, argsToLocals, Value.category]; done) | rfl) ?_
  show W _ _ _ _ _ _ 0 0 ((q, (own_Part Z .null .null)) :: F) 0 #[.val (.ref q)] []
  refine W.aloadN d4_0 (pc' := 1) rfl rfl rfl ?_
  refine W.initO d4_1 (wd hw 36 rfl) (wd hw 7 rfl) (wd hw 8 rfl) rfl (Nat.le_of_ble_eq_true rfl) (Nat.le_of_ble_eq_true rfl) (pc' := 4) rfl ?_
  refine W.aloadN d4_4 (pc' := 5) rfl rfl rfl ?_
  refine W.getS d4_5 (wd hw 37 rfl) Via.refl hA.1 (pc' := 8) rfl ?_
  refine W.callFO hA.2.1 (mSize l Z n0 a0 hw ((q, (own_Part Z .null .null)) :: F) b e9 hA) d4_8 (wd hw 39 rfl) (wd hw 40 rfl) (wd hw 41 rfl) (wd hw 42 rfl) (wd hw 43 rfl) (wd hw 44 rfl) (wd hw 45 rfl) (wd hw 46 rfl) (wd hw 47 rfl) (wd hw 48 rfl) (by decide) pd0 rfl rfl (Nat.le_of_ble_eq_true rfl) (Nat.le_of_ble_eq_true rfl) (Nat.le_of_ble_eq_true rfl) (Nat.le_of_ble_eq_true rfl) rfl (pc' := 13) rfl ?_
  intro v9 s9 q9
  rw [q9.1, q9.2]
  clear q9 v9 s9
  show W _ _ _ _ _ _ 0 0 ((q, (own_Part Z .null .null)) :: F) 13 #[.val (.ref q)] [(.int (8 : Int32)), (.ref q)]
  refine W.newR 8 8 d4_13 (wd hw 51 rfl) (wd hw 52 rfl) (by decide) rfl (by decide) (by decide) (by decide) (by decide) (pc' := 16) rfl ?_
  intro va
  show W _ _ _ _ _ _ 1 8 ((va, (RA Z "java/lang/String" (List.replicate 8 .null))) :: (q, (own_Part Z .null .null)) :: F) 16 #[.val (.ref q)] [(.ref va), (.ref q)]
  refine W.putF ((va, (RA Z "java/lang/String" (List.replicate 8 .null))) :: (q, (own_Part Z (.ref va) .null)) :: F) 1 0 d4_16 (host := "") (Or.inl (wd hw 53 rfl)) Via.refl (Or.inr ⟨(wd hw 54 rfl), rfl, rfl⟩) (wd hw 31 rfl) (ty := (.array (.object "java/lang/String"))) (by decide) rfl rfl rfl rfl rfl (pc' := 19) rfl ?_
  refine W.aloadN d4_19 (pc' := 20) rfl rfl rfl ?_
  refine W.bipush (64 : Int32) d4_20 (pc' := 22) rfl rfl ?_
  refine W.newI 64 64 d4_22 (wd hw 55 rfl) rfl (by decide) rfl (by decide) (by decide) (by decide) (by decide) (pc' := 24) rfl ?_
  intro tx
  show W _ _ _ _ _ _ 2 72 ((tx, (IA Z .char (List.replicate 64 0))) :: (va, (RA Z "java/lang/String" (List.replicate 8 .null))) :: (q, (own_Part Z (.ref va) .null)) :: F) 24 #[.val (.ref q)] [(.ref tx), (.ref q)]
  refine W.putF ((tx, (IA Z .char (List.replicate 64 0))) :: (va, (RA Z "java/lang/String" (List.replicate 8 .null))) :: (q, (own_Part Z (.ref va) (.ref tx))) :: F) 2 1 d4_24 (host := "") (Or.inl (wd hw 56 rfl)) Via.refl (Or.inl (wd hw 57 rfl)) (wd hw 31 rfl) (ty := (.array .char)) (by decide) rfl rfl rfl rfl rfl (pc' := 27) rfl ?_
  refine W.drop ((va, (RA Z "java/lang/String" (List.replicate 8 .null))) :: (q, (own_Part Z (.ref va) (.ref tx))) :: F) 0 rfl ?_
  refine W.drop ((q, (own_Part Z (.ref va) (.ref tx))) :: F) 0 rfl ?_
  refine W.fewer ((q, (own_P Z )) :: F) 0 rfl ((List.Sublist.slnil.cons _).cons _) rfl ?_
  exact W.retV d4_27 rfl (by decide) (by decide) ⟨rfl, rfl⟩
theorem pn_mBInit : plainFor (⟨"com/example/letterhead/letterhead/LetterBuffer$Buffers", "<init>", "(Ljava/util/function/Supplier;)V"⟩ : MethodName) = true := by first | (refine plainFor_of_name ?_; simp [plainName, overriddenIn]; done) | (refine plainFor_of_name ?_; decide +kernel) | decide +kernel
set_option maxRecDepth 65536 in
set_option maxHeartbeats 40000000 in
theorem mBInit (l : Launch) (Z : State) (n0 : Nat) (a0 : Array Value) (hw : ∀ d ∈ tables_1, d.before a0 Z = true) (F : Asn) (nb f : Addr) : Sp l Z n0 (⟨"com/example/letterhead/letterhead/LetterBuffer$Buffers", "<init>", "(Ljava/util/function/Supplier;)V"⟩ : MethodName) prog_38_method_1_code 2 none ({ frames := 1, cells := 1, slots := 4, locals := 12 } : Room) [(.ref nb), (.ref f)] ((nb, (own_Buf Z .null .null (.int (0 : Int32)))) :: F) (fun v σ' => v = none ∧ ∃ kp, σ' = (kp, RA Z "java/lang/Object" (List.replicate 4 .null)) :: (nb, own_Buf Z (.ref kp) (.ref f) (.int 0)) :: F) := by
  refine Sp.of (ls := #[.val (.ref nb), .val (.ref f)]) pn_mBInit (fun m => by first | (simp [entryFrame, mkF, argsToLocals, Value.category]; done) | rfl) ?_
  show W _ _ _ _ _ _ 0 0 ((nb, (own_Buf Z .null .null (.int (0 : Int32)))) :: F) 0 #[.val (.ref nb), .val (.ref f)] []
  refine W.aloadN d3_0 (pc' := 1) rfl rfl rfl ?_
  refine W.initO d3_1 (wd hw 18 rfl) (wd hw 7 rfl) (wd hw 8 rfl) rfl (Nat.le_of_ble_eq_true rfl) (Nat.le_of_ble_eq_true rfl) (pc' := 4) rfl ?_
  refine W.aloadN d3_4 (pc' := 5) rfl rfl rfl ?_
  refine W.iconst (4 : Int32) d3_5 (pc' := 6) rfl rfl ?_
  refine W.newR 4 4 d3_6 (wd hw 19 rfl) (wd hw 20 rfl) (by decide) rfl (by decide) (by decide) (by decide) (by decide) (pc' := 9) rfl ?_
  intro kp
  show W _ _ _ _ _ _ 1 4 ((kp, (RA Z "java/lang/Object" (List.replicate 4 .null))) :: (nb, (own_Buf Z .null .null (.int (0 : Int32)))) :: F) 9 #[.val (.ref nb), .val (.ref f)] [(.ref kp), (.ref nb)]
  refine W.putF ((kp, (RA Z "java/lang/Object" (List.replicate 4 .null))) :: (nb, (own_Buf Z (.ref kp) .null (.int (0 : Int32)))) :: F) 1 0 d3_9 (host := "") (Or.inl (wd hw 21 rfl)) Via.refl (Or.inl (wd hw 22 rfl)) (wd hw 10 rfl) (ty := (.array (.object "java/lang/Object"))) (by decide) rfl rfl rfl rfl rfl (pc' := 12) rfl ?_
  refine W.aloadN d3_12 (pc' := 13) rfl rfl rfl ?_
  refine W.aloadN d3_13 (pc' := 14) rfl rfl rfl ?_
  refine W.putF ((kp, (RA Z "java/lang/Object" (List.replicate 4 .null))) :: (nb, (own_Buf Z (.ref kp) (.ref f) (.int (0 : Int32)))) :: F) 1 1 d3_14 (host := "") (Or.inl (wd hw 23 rfl)) Via.refl (Or.inr ⟨(wd hw 24 rfl), rfl, rfl⟩) (wd hw 10 rfl) (ty := (.object "java/util/function/Supplier")) (by decide) rfl rfl rfl rfl rfl (pc' := 17) rfl ?_
  exact W.retV d3_17 rfl (by decide) (by decide) ⟨rfl, _, rfl⟩
theorem pn_mAInit : plainFor (⟨"com/example/letterhead/letterhead/LetterBuffer$Action", "<init>", "()V"⟩ : MethodName) = true := by first | (refine plainFor_of_name ?_; simp [plainName, overriddenIn]; done) | (refine plainFor_of_name ?_; decide +kernel) | decide +kernel
set_option maxRecDepth 65536 in
set_option maxHeartbeats 40000000 in
theorem mAInit (l : Launch) (Z : State) (n0 : Nat) (a0 : Array Value) (hw : ∀ d ∈ tables_1, d.before a0 Z = true) (F : Asn) (a : Addr) (b e9 : Addr) (hA : own_Att Z b e9) : Sp l Z n0 (⟨"com/example/letterhead/letterhead/LetterBuffer$Action", "<init>", "()V"⟩ : MethodName) prog_37_method_1_code 1 none ({ frames := 2, cells := 7, slots := 91, locals := 3075 } : Room) [(.ref a)] ((a, (own_Act Z .null .null .null (.int (0 : Int32)))) :: F) (fun v σ' => v = none ∧ ∃ nb pb dt kp kq f1 f2, FnZ Z "com/example/letterhead/letterhead/LetterBuffer$Action" own_sh f1 ∧ FnZ Z "com/example/letterhead/letterhead/LetterBuffer$Action" own_sh f2 ∧ σ' = (a, own_Act Z (.ref nb) (.ref pb) (.ref dt) (.int 0)) :: (nb, own_Buf Z (.ref kp) (.ref f1) (.int 0)) :: (kp, RA Z "java/lang/Object" (List.replicate 4 .null)) :: (pb, own_Buf Z (.ref kq) (.ref f2) (.int 0)) :: (kq, RA Z "java/lang/Object" (List.replicate 4 .null)) :: (dt, own_P Z) :: F) := by
  refine Sp.of (ls := #[.val (.ref a)]) pn_mAInit (fun m => by first | (simp [entryFrame, mkF, argsToLocals, Value.category]; done) | rfl) ?_
  show W _ _ _ _ _ _ 0 0 ((a, (own_Act Z .null .null .null (.int (0 : Int32)))) :: F) 0 #[.val (.ref a)] []
  refine W.aloadN d1_0 (pc' := 1) rfl rfl rfl ?_
  refine W.initO d1_1 (wd hw 6 rfl) (wd hw 7 rfl) (wd hw 8 rfl) rfl (Nat.le_of_ble_eq_true rfl) (Nat.le_of_ble_eq_true rfl) (pc' := 4) rfl ?_
  refine W.aloadN d1_4 (pc' := 5) rfl rfl rfl ?_
  refine W.new [("com/example/letterhead/letterhead/LetterBuffer$Buffers", "kept", "[Ljava/lang/Object;", .null), ("com/example/letterhead/letterhead/LetterBuffer$Buffers", "make", "Ljava/util/function/Supplier;", .null), ("com/example/letterhead/letterhead/LetterBuffer$Buffers", "size", "I", (.int (0 : Int32)))] d1_5 (wd hw 9 rfl) (wd hw 10 rfl) (wd hw 11 rfl) ⟨⟨Or.inl (wd hw 22 rfl), (.array (.object "java/lang/Object")), by decide, rfl⟩, ⟨Or.inr (wd hw 24 rfl), (.object "java/util/function/Supplier"), by decide, rfl⟩, ⟨Or.inl (wd hw 78 rfl), .int, by decide, rfl⟩, trivial⟩ (by decide) (by decide) (by decide) (pc' := 8) rfl ?_
  intro nb
  show W _ _ _ _ _ _ 1 3 ((nb, (own_Buf Z .null .null (.int (0 : Int32)))) :: (a, (own_Act Z .null .null .null (.int (0 : Int32)))) :: F) 8 #[.val (.ref a)] [(.ref nb), (.ref a)]
  refine W.dup d1_8 (pc' := 9) rfl rfl ?_
  refine W.site (sh := own_sh) d1_9 (wd hw 12 rfl) rfl rfl (Nat.le_of_ble_eq_true rfl) (pc' := 14) rfl ?_
  intro f1 hf1
  show W _ _ _ _ _ _ 1 3 ((nb, (own_Buf Z .null .null (.int (0 : Int32)))) :: (a, (own_Act Z .null .null .null (.int (0 : Int32)))) :: F) 14 #[.val (.ref a)] [(.ref f1), (.ref nb), (.ref nb), (.ref a)]
  refine W.callI (mBInit l Z n0 a0 hw ((a, (own_Act Z .null .null .null (.int (0 : Int32)))) :: F) nb f1) d1_14 rfl (wd hw 15 rfl) (wd hw 16 rfl) (wd hw 11 rfl) (wd hw 17 rfl) (by decide) pd1 rfl rfl (Nat.le_of_ble_eq_true rfl) (Nat.le_of_ble_eq_true rfl) (Nat.le_of_ble_eq_true rfl) (Nat.le_of_ble_eq_true rfl) rfl (pc' := 17) rfl ?_
  rintro v9 s9 ⟨rfl, kp, rfl⟩
  show W _ _ _ _ _ _ 2 7 ((kp, (RA Z "java/lang/Object" (List.replicate 4 .null))) :: (nb, (own_Buf Z (.ref kp) (.ref f1) (.int (0 : Int32)))) :: (a, (own_Act Z .null .null .null (.int (0 : Int32)))) :: F) 17 #[.val (.ref a)] [(.ref nb), (.ref a)]
  refine W.putF ((kp, (RA Z "java/lang/Object" (List.replicate 4 .null))) :: (nb, (own_Buf Z (.ref kp) (.ref f1) (.int (0 : Int32)))) :: (a, (own_Act Z (.ref nb) .null .null (.int (0 : Int32)))) :: F) 2 0 d1_17 (host := "") (Or.inl (wd hw 25 rfl)) Via.refl (Or.inr ⟨(wd hw 26 rfl), rfl, rfl⟩) (wd hw 1 rfl) (ty := (.object "com/example/letterhead/letterhead/LetterBuffer$Buffers")) (by decide) rfl rfl rfl rfl rfl (pc' := 20) rfl ?_
  refine W.aloadN d1_20 (pc' := 21) rfl rfl rfl ?_
  refine W.new [("com/example/letterhead/letterhead/LetterBuffer$Buffers", "kept", "[Ljava/lang/Object;", .null), ("com/example/letterhead/letterhead/LetterBuffer$Buffers", "make", "Ljava/util/function/Supplier;", .null), ("com/example/letterhead/letterhead/LetterBuffer$Buffers", "size", "I", (.int (0 : Int32)))] d1_21 (wd hw 9 rfl) (wd hw 10 rfl) (wd hw 11 rfl) ⟨⟨Or.inl (wd hw 22 rfl), (.array (.object "java/lang/Object")), by decide, rfl⟩, ⟨Or.inr (wd hw 24 rfl), (.object "java/util/function/Supplier"), by decide, rfl⟩, ⟨Or.inl (wd hw 78 rfl), .int, by decide, rfl⟩, trivial⟩ (by decide) (by decide) (by decide) (pc' := 24) rfl ?_
  intro pb
  show W _ _ _ _ _ _ 3 10 ((pb, (own_Buf Z .null .null (.int (0 : Int32)))) :: (kp, (RA Z "java/lang/Object" (List.replicate 4 .null))) :: (nb, (own_Buf Z (.ref kp) (.ref f1) (.int (0 : Int32)))) :: (a, (own_Act Z (.ref nb) .null .null (.int (0 : Int32)))) :: F) 24 #[.val (.ref a)] [(.ref pb), (.ref a)]
  refine W.dup d1_24 (pc' := 25) rfl rfl ?_
  refine W.site (sh := own_sh) d1_25 (wd hw 27 rfl) rfl rfl (Nat.le_of_ble_eq_true rfl) (pc' := 30) rfl ?_
  intro f2 hf2
  show W _ _ _ _ _ _ 3 10 ((pb, (own_Buf Z .null .null (.int (0 : Int32)))) :: (kp, (RA Z "java/lang/Object" (List.replicate 4 .null))) :: (nb, (own_Buf Z (.ref kp) (.ref f1) (.int (0 : Int32)))) :: (a, (own_Act Z (.ref nb) .null .null (.int (0 : Int32)))) :: F) 30 #[.val (.ref a)] [(.ref f2), (.ref pb), (.ref pb), (.ref a)]
  refine W.callI (mBInit l Z n0 a0 hw ((kp, (RA Z "java/lang/Object" (List.replicate 4 .null))) :: (nb, (own_Buf Z (.ref kp) (.ref f1) (.int (0 : Int32)))) :: (a, (own_Act Z (.ref nb) .null .null (.int (0 : Int32)))) :: F) pb f2) d1_30 rfl (wd hw 15 rfl) (wd hw 16 rfl) (wd hw 11 rfl) (wd hw 17 rfl) (by decide) pd1 rfl rfl (Nat.le_of_ble_eq_true rfl) (Nat.le_of_ble_eq_true rfl) (Nat.le_of_ble_eq_true rfl) (Nat.le_of_ble_eq_true rfl) rfl (pc' := 33) rfl ?_
  rintro v9 s9 ⟨rfl, kq, rfl⟩
  show W _ _ _ _ _ _ 4 14 ((kq, (RA Z "java/lang/Object" (List.replicate 4 .null))) :: (pb, (own_Buf Z (.ref kq) (.ref f2) (.int (0 : Int32)))) :: (kp, (RA Z "java/lang/Object" (List.replicate 4 .null))) :: (nb, (own_Buf Z (.ref kp) (.ref f1) (.int (0 : Int32)))) :: (a, (own_Act Z (.ref nb) .null .null (.int (0 : Int32)))) :: F) 33 #[.val (.ref a)] [(.ref pb), (.ref a)]
  refine W.putF ((kq, (RA Z "java/lang/Object" (List.replicate 4 .null))) :: (pb, (own_Buf Z (.ref kq) (.ref f2) (.int (0 : Int32)))) :: (kp, (RA Z "java/lang/Object" (List.replicate 4 .null))) :: (nb, (own_Buf Z (.ref kp) (.ref f1) (.int (0 : Int32)))) :: (a, (own_Act Z (.ref nb) (.ref pb) .null (.int (0 : Int32)))) :: F) 4 1 d1_33 (host := "") (Or.inl (wd hw 28 rfl)) Via.refl (Or.inr ⟨(wd hw 29 rfl), rfl, rfl⟩) (wd hw 1 rfl) (ty := (.object "com/example/letterhead/letterhead/LetterBuffer$Buffers")) (by decide) rfl rfl rfl rfl rfl (pc' := 36) rfl ?_
  refine W.aloadN d1_36 (pc' := 37) rfl rfl rfl ?_
  refine W.new [("com/example/letterhead/letterhead/LetterBuffer$Part", "values", "[Ljava/lang/String;", .null), ("com/example/letterhead/letterhead/LetterBuffer$Part", "text", "[C", .null)] d1_37 (wd hw 30 rfl) (wd hw 31 rfl) (wd hw 32 rfl) ⟨⟨Or.inr (wd hw 54 rfl), (.array (.object "java/lang/String")), by decide, rfl⟩, ⟨Or.inl (wd hw 57 rfl), (.array .char), by decide, rfl⟩, trivial⟩ (by decide) (by decide) (by decide) (pc' := 40) rfl ?_
  intro dt
  show W _ _ _ _ _ _ 5 19 ((dt, (own_Part Z .null .null)) :: (kq, (RA Z "java/lang/Object" (List.replicate 4 .null))) :: (pb, (own_Buf Z (.ref kq) (.ref f2) (.int (0 : Int32)))) :: (kp, (RA Z "java/lang/Object" (List.replicate 4 .null))) :: (nb, (own_Buf Z (.ref kp) (.ref f1) (.int (0 : Int32)))) :: (a, (own_Act Z (.ref nb) (.ref pb) .null (.int (0 : Int32)))) :: F) 40 #[.val (.ref a)] [(.ref dt), (.ref a)]
  refine W.dup d1_40 (pc' := 41) rfl rfl ?_
  refine W.callI (mPart l Z n0 a0 hw ((kq, (RA Z "java/lang/Object" (List.replicate 4 .null))) :: (pb, (own_Buf Z (.ref kq) (.ref f2) (.int (0 : Int32)))) :: (kp, (RA Z "java/lang/Object" (List.replicate 4 .null))) :: (nb, (own_Buf Z (.ref kp) (.ref f1) (.int (0 : Int32)))) :: (a, (own_Act Z (.ref nb) (.ref pb) .null (.int (0 : Int32)))) :: F) dt b e9 hA) d1_41 rfl (wd hw 33 rfl) (wd hw 34 rfl) (wd hw 32 rfl) (wd hw 35 rfl) (by decide) pd2 rfl rfl (Nat.le_of_ble_eq_true rfl) (Nat.le_of_ble_eq_true rfl) (Nat.le_of_ble_eq_true rfl) (Nat.le_of_ble_eq_true rfl) rfl (pc' := 44) rfl ?_
  intro v9 s9 q9
  rw [q9.1, q9.2]
  clear q9 v9 s9
  show W _ _ _ _ _ _ 7 91 ((dt, (own_P Z )) :: (kq, (RA Z "java/lang/Object" (List.replicate 4 .null))) :: (pb, (own_Buf Z (.ref kq) (.ref f2) (.int (0 : Int32)))) :: (kp, (RA Z "java/lang/Object" (List.replicate 4 .null))) :: (nb, (own_Buf Z (.ref kp) (.ref f1) (.int (0 : Int32)))) :: (a, (own_Act Z (.ref nb) (.ref pb) .null (.int (0 : Int32)))) :: F) 44 #[.val (.ref a)] [(.ref dt), (.ref a)]
  refine W.putF ((dt, (own_P Z )) :: (kq, (RA Z "java/lang/Object" (List.replicate 4 .null))) :: (pb, (own_Buf Z (.ref kq) (.ref f2) (.int (0 : Int32)))) :: (kp, (RA Z "java/lang/Object" (List.replicate 4 .null))) :: (nb, (own_Buf Z (.ref kp) (.ref f1) (.int (0 : Int32)))) :: (a, (own_Act Z (.ref nb) (.ref pb) (.ref dt) (.int (0 : Int32)))) :: F) 5 2 d1_44 (host := "") (Or.inl (wd hw 58 rfl)) Via.refl (Or.inr ⟨(wd hw 59 rfl), rfl, rfl⟩) (wd hw 1 rfl) (ty := (.object "com/example/letterhead/letterhead/LetterBuffer$Part")) (by decide) rfl rfl rfl rfl rfl (pc' := 47) rfl ?_
  refine W.pulls ((a, (own_Act Z (.ref nb) (.ref pb) (.ref dt) (.int (0 : Int32)))) :: (nb, (own_Buf Z (.ref kp) (.ref f1) (.int (0 : Int32)))) :: (kp, (RA Z "java/lang/Object" (List.replicate 4 .null))) :: (pb, (own_Buf Z (.ref kq) (.ref f2) (.int (0 : Int32)))) :: (kq, (RA Z "java/lang/Object" (List.replicate 4 .null))) :: (dt, (own_P Z )) :: F) [1, 2, 3, 4, 5] rfl ?_
  exact W.retV d1_47 rfl (by decide) (by decide) ⟨rfl, _, _, _, _, _, _, _, hf1, hf2, rfl⟩
theorem pn_mMake : plainFor (⟨"com/example/letterhead/letterhead/LetterBuffer$Buffers", "makeNext", "()V"⟩ : MethodName) = true := by first | (refine plainFor_of_name ?_; simp [plainName, overriddenIn]; done) | (refine plainFor_of_name ?_; decide +kernel) | decide +kernel
set_option maxRecDepth 65536 in
set_option maxHeartbeats 40000000 in
theorem mMake (l : Launch) (Z : State) (n0 : Nat) (a0 : Array Value) (hw : ∀ d ∈ tables_1, d.before a0 Z = true) (F : Asn) (nb kp f : Addr) (hf : FnZ Z "com/example/letterhead/letterhead/LetterBuffer$Action" own_sh f) (n : Int32) (vs : List Value) (k : Nat) (H : own_ok n vs k) (b e9 : Addr) (hA : own_Att Z b e9) : Sp l Z n0 (⟨"com/example/letterhead/letterhead/LetterBuffer$Buffers", "makeNext", "()V"⟩ : MethodName) prog_38_method_3_code 1 none ({ frames := 3, cells := 3, slots := 77, locals := 40 } : Room) [(.ref nb)] ((nb, (own_Buf Z (.ref kp) (.ref f) (.int n))) :: (kp, (RA Z "java/lang/Object" vs)) :: F) (fun v σ' => v = none ∧ ∃ q, σ' = (q, own_P Z) :: (nb, own_Buf Z (.ref kp) (.ref f) (.int n)) :: (kp, RA Z "java/lang/Object" (vs.set k (.ref q))) :: F) := by
  refine Sp.of (ls := #[.val (.ref nb)]) pn_mMake (fun m => by first | (simp [entryFrame, mkF, argsToLocals, Value.category]; done) | rfl) ?_
  show W _ _ _ _ _ _ 0 0 ((nb, (own_Buf Z (.ref kp) (.ref f) (.int n))) :: (kp, (RA Z "java/lang/Object" vs)) :: F) 0 #[.val (.ref nb)] []
  refine W.aloadN d9_0 (pc' := 1) rfl rfl rfl ?_
  refine W.getF 0 2 d9_1 (host := "") (Or.inl (wd hw 77 rfl)) Via.refl rfl rfl (pc' := 4) rfl ?_
  refine W.aloadN d9_4 (pc' := 5) rfl rfl rfl ?_
  refine W.getF 0 0 d9_5 (host := "") (Or.inl (wd hw 21 rfl)) Via.refl rfl rfl (pc' := 8) rfl ?_
  refine W.lenR 1 (4 : Int32) d9_8 rfl (by rw [H.2.2.1]; rfl) (pc' := 9) rfl ?_
  refine W.icmpY d9_9 (XT.ii_ne_t H.2.2.2.2.2.1) (by decide) (pc' := 29) rfl ?_
  refine W.aloadN d9_29 (pc' := 30) rfl rfl rfl ?_
  refine W.getF 0 0 d9_30 (host := "") (Or.inl (wd hw 21 rfl)) Via.refl rfl rfl (pc' := 33) rfl ?_
  refine W.aloadN d9_33 (pc' := 34) rfl rfl rfl ?_
  refine W.getF 0 2 d9_34 (host := "") (Or.inl (wd hw 77 rfl)) Via.refl rfl rfl (pc' := 37) rfl ?_
  refine W.aaload 1 k .null d9_37 rfl H.1 H.2.1 H.2.2.2.2.1 (pc' := 38) rfl ?_
  refine W.nonnullN d9_38  (pc' := 41) rfl ?_
  refine W.aloadN d9_41 (pc' := 42) rfl rfl rfl ?_
  refine W.getF 0 0 d9_42 (host := "") (Or.inl (wd hw 21 rfl)) Via.refl rfl rfl (pc' := 45) rfl ?_
  refine W.aloadN d9_45 (pc' := 46) rfl rfl rfl ?_
  refine W.getF 0 2 d9_46 (host := "") (Or.inl (wd hw 77 rfl)) Via.refl rfl rfl (pc' := 49) rfl ?_
  refine W.aloadN d9_49 (pc' := 50) rfl rfl rfl ?_
  refine W.getF 0 1 d9_50 (host := "") (Or.inl (wd hw 23 rfl)) Via.refl rfl rfl (pc' := 53) rfl ?_
  refine W.callLam (xi := ⟨"java/util/function/Supplier", "get", "()Ljava/lang/Object;"⟩) (y := (⟨"com/example/letterhead/letterhead/LetterBuffer$Part", "<init>", "()V"⟩ : MethodName)) (fs := [("com/example/letterhead/letterhead/LetterBuffer$Part", "values", "[Ljava/lang/String;", .null), ("com/example/letterhead/letterhead/LetterBuffer$Part", "text", "[C", .null)]) (Qc := (fun a => Ret none ((a, own_P Z) :: ((nb, (own_Buf Z (.ref kp) (.ref f) (.int n))) :: (kp, (RA Z "java/lang/Object" vs)) :: F)))) hf (fun a => mPart l Z n0 a0 hw ((nb, (own_Buf Z (.ref kp) (.ref f) (.int n))) :: (kp, (RA Z "java/lang/Object" vs)) :: F) a b e9 hA) (fun _ _ _ h => h.1) d9_53 (wd hw 83 rfl) (wd hw 84 rfl) (wd hw 85 rfl) own_fwd own_f0 own_f3 own_f4 own_f7 ⟨rfl, rfl, by decide +kernel⟩ ⟨rfl, rfl, by decide +kernel⟩ rfl rfl (wd hw 31 rfl) (wd hw 32 rfl) (wd hw 34 rfl) (wd hw 35 rfl) ⟨⟨Or.inr (wd hw 54 rfl), (.array (.object "java/lang/String")), by decide, rfl⟩, ⟨Or.inl (wd hw 57 rfl), (.array .char), by decide, rfl⟩, trivial⟩ (by decide) (by decide) (by decide) pd3 rfl pd2 rfl (Nat.le_of_ble_eq_true rfl) (Nat.le_of_ble_eq_true rfl) (Nat.le_of_ble_eq_true rfl) (Nat.le_of_ble_eq_true rfl) rfl (pc' := 58) rfl ?_
  rintro q v9 s9 ⟨rfl, rfl⟩
  show W _ _ _ _ _ _ 3 77 ((q, (own_P Z )) :: (nb, (own_Buf Z (.ref kp) (.ref f) (.int n))) :: (kp, (RA Z "java/lang/Object" vs)) :: F) 58 #[.val (.ref nb)] [(.ref q), (.int n), (.ref kp)]
  refine W.aastore ((q, (own_P Z )) :: (nb, (own_Buf Z (.ref kp) (.ref f) (.int n))) :: (kp, (RA Z "java/lang/Object" (vs.set k (.ref q)))) :: F) 2 0 k d9_58 rfl rfl (wd hw 86 rfl) H.1 H.2.1 (by rw [H.2.2.1]; exact H.2.2.2.1) rfl (pc' := 59) rfl ?_
  exact W.retV d9_59 rfl (by decide) (by decide) ⟨rfl, _, rfl⟩
theorem pn_mGet : plainFor (⟨"com/example/letterhead/letterhead/LetterBuffer$Buffers", "get", "(I)Ljava/lang/Object;"⟩ : MethodName) = true := by first | (refine plainFor_of_name ?_; simp [plainName, overriddenIn]; done) | (refine plainFor_of_name ?_; decide +kernel) | decide +kernel
set_option maxRecDepth 65536 in
set_option maxHeartbeats 40000000 in
theorem mGet (l : Launch) (Z : State) (n0 : Nat) (a0 : Array Value) (hw : ∀ d ∈ tables_1, d.before a0 Z = true) (F : Asn) (nb kp f : Addr) (m n : Int32) (vs : List Value) (k : Nat) (q : Addr) (h1 : n < m) (h2 : ¬ n < 0) (h3 : n.toNatClampNeg = k) (h4 : vs[k]? = some (.ref q)) : Sp l Z n0 (⟨"com/example/letterhead/letterhead/LetterBuffer$Buffers", "get", "(I)Ljava/lang/Object;"⟩ : MethodName) prog_38_method_5_code 2 (some (.object "java/lang/Object")) ({ frames := 0, cells := 0, slots := 0, locals := 0 } : Room) [(.ref nb), (.int n)] ((nb, (own_Buf Z (.ref kp) (.ref f) (.int m))) :: (kp, (RA Z "java/lang/Object" vs)) :: F) (Ret (some (.ref q)) ((nb, own_Buf Z (.ref kp) (.ref f) (.int m)) :: (kp, RA Z "java/lang/Object" vs) :: F)) := by
  refine Sp.of (ls := #[.val (.ref nb), .val (.int n)]) pn_mGet (fun m => by first | (simp [entryFrame, mkF, argsToLocals, Value.category]; done) | rfl) ?_
  show W _ _ _ _ _ _ 0 0 ((nb, (own_Buf Z (.ref kp) (.ref f) (.int m))) :: (kp, (RA Z "java/lang/Object" vs)) :: F) 0 #[.val (.ref nb), .val (.int n)] []
  refine W.iloadN d10_0 (pc' := 1) rfl rfl ?_
  refine W.aloadN d10_1 (pc' := 2) rfl rfl rfl ?_
  refine W.getF 0 2 d10_2 (host := "") (Or.inl (wd hw 77 rfl)) Via.refl rfl rfl (pc' := 5) rfl ?_
  refine W.icmpY d10_5 (XT.ii_lt_t h1) (by decide) (pc' := 17) rfl ?_
  refine W.aloadN d10_17 (pc' := 18) rfl rfl rfl ?_
  refine W.getF 0 0 d10_18 (host := "") (Or.inl (wd hw 21 rfl)) Via.refl rfl rfl (pc' := 21) rfl ?_
  refine W.iloadN d10_21 (pc' := 22) rfl rfl ?_
  refine W.aaload 1 k (.ref q) d10_22 rfl h2 h3 h4 (pc' := 23) rfl ?_
  exact W.retA (t := (.object "java/lang/Object")) d10_23 rfl rfl rfl rfl (by decide) (by decide) ⟨rfl, rfl⟩
theorem pn_mAdd : plainFor (⟨"com/example/letterhead/letterhead/LetterBuffer$Buffers", "add", "()Ljava/lang/Object;"⟩ : MethodName) = true := by first | (refine plainFor_of_name ?_; simp [plainName, overriddenIn]; done) | (refine plainFor_of_name ?_; decide +kernel) | decide +kernel
set_option maxRecDepth 65536 in
set_option maxHeartbeats 40000000 in
theorem mAdd (l : Launch) (Z : State) (n0 : Nat) (a0 : Array Value) (hw : ∀ d ∈ tables_1, d.before a0 Z = true) (F : Asn) (nb kp f : Addr) (hf : FnZ Z "com/example/letterhead/letterhead/LetterBuffer$Action" own_sh f) (n : Int32) (vs : List Value) (k : Nat) (H : own_ok n vs k) (b e9 : Addr) (hA : own_Att Z b e9) : Sp l Z n0 (⟨"com/example/letterhead/letterhead/LetterBuffer$Buffers", "add", "()Ljava/lang/Object;"⟩ : MethodName) prog_38_method_2_code 1 (some (.object "java/lang/Object")) ({ frames := 4, cells := 3, slots := 77, locals := 52 } : Room) [(.ref nb)] ((nb, (own_Buf Z (.ref kp) (.ref f) (.int n))) :: (kp, (RA Z "java/lang/Object" vs)) :: F) (fun v σ' => ∃ q, v = some (.ref q) ∧ σ' = (q, own_P Z) :: (nb, own_Buf Z (.ref kp) (.ref f) (.int (n + 1))) :: (kp, RA Z "java/lang/Object" (vs.set k (.ref q))) :: F) := by
  refine Sp.of (ls := #[.val (.ref nb)]) pn_mAdd (fun m => by first | (simp [entryFrame, mkF, argsToLocals, Value.category]; done) | rfl) ?_
  show W _ _ _ _ _ _ 0 0 ((nb, (own_Buf Z (.ref kp) (.ref f) (.int n))) :: (kp, (RA Z "java/lang/Object" vs)) :: F) 0 #[.val (.ref nb)] []
  refine W.aloadN d8_0 (pc' := 1) rfl rfl rfl ?_
  refine W.getF 0 2 d8_1 (host := "") (Or.inl (wd hw 77 rfl)) Via.refl rfl rfl (pc' := 4) rfl ?_
  refine W.aloadN d8_4 (pc' := 5) rfl rfl rfl ?_
  refine W.getF 0 0 d8_5 (host := "") (Or.inl (wd hw 21 rfl)) Via.refl rfl rfl (pc' := 8) rfl ?_
  refine W.lenR 1 (4 : Int32) d8_8 rfl (by rw [H.2.2.1]; rfl) (pc' := 9) rfl ?_
  refine W.icmpN d8_9 (XT.ii_eq_f H.2.2.2.2.2.1) (pc' := 12) rfl ?_
  refine W.aloadN d8_12 (pc' := 13) rfl rfl rfl ?_
  refine W.getF 0 0 d8_13 (host := "") (Or.inl (wd hw 21 rfl)) Via.refl rfl rfl (pc' := 16) rfl ?_
  refine W.aloadN d8_16 (pc' := 17) rfl rfl rfl ?_
  refine W.getF 0 2 d8_17 (host := "") (Or.inl (wd hw 77 rfl)) Via.refl rfl rfl (pc' := 20) rfl ?_
  refine W.aaload 1 k .null d8_20 rfl H.1 H.2.1 H.2.2.2.2.1 (pc' := 21) rfl ?_
  refine W.nonnullN d8_21  (pc' := 24) rfl ?_
  refine W.aloadN d8_24 (pc' := 25) rfl rfl rfl ?_
  refine W.callP 0 rfl (mMake l Z n0 a0 hw F nb kp f hf n vs k H b e9 hA) d8_25 (wd hw 79 rfl) (wd hw 80 rfl) (wd hw 81 rfl) (wd hw 10 rfl) (wd hw 11 rfl) (wd hw 82 rfl) (by decide) pd2 rfl rfl (Nat.le_of_ble_eq_true rfl) (Nat.le_of_ble_eq_true rfl) (Nat.le_of_ble_eq_true rfl) (Nat.le_of_ble_eq_true rfl) rfl (pc' := 28) rfl ?_
  rintro v9 s9 ⟨rfl, q, rfl⟩
  show W _ _ _ _ _ _ 3 77 ((q, (own_P Z )) :: (nb, (own_Buf Z (.ref kp) (.ref f) (.int n))) :: (kp, (RA Z "java/lang/Object" (vs.set k (.ref q)))) :: F) 28 #[.val (.ref nb)] []
  refine W.aloadN d8_28 (pc' := 29) rfl rfl rfl ?_
  refine W.dup d8_29 (pc' := 30) rfl rfl ?_
  refine W.getF 1 2 d8_30 (host := "") (Or.inl (wd hw 77 rfl)) Via.refl rfl rfl (pc' := 33) rfl ?_
  refine W.iconst (1 : Int32) d8_33 (pc' := 34) rfl rfl ?_
  refine W.iadd d8_34 (pc' := 35) rfl ?_
  refine W.putF ((q, (own_P Z )) :: (nb, (own_Buf Z (.ref kp) (.ref f) (.int (n + (1 : Int32))))) :: (kp, (RA Z "java/lang/Object" (vs.set k (.ref q)))) :: F) 1 2 d8_35 (host := "") (Or.inl (wd hw 77 rfl)) Via.refl (Or.inl (wd hw 78 rfl)) (wd hw 10 rfl) (ty := .int) (by decide) rfl rfl rfl rfl rfl (pc' := 38) rfl ?_
  refine W.aloadN d8_38 (pc' := 39) rfl rfl rfl ?_
  refine W.aloadN d8_39 (pc' := 40) rfl rfl rfl ?_
  refine W.getF 1 2 d8_40 (host := "") (Or.inl (wd hw 77 rfl)) Via.refl rfl rfl (pc' := 43) rfl ?_
  refine W.iconst (1 : Int32) d8_43 (pc' := 44) rfl rfl ?_
  refine W.isub d8_44 (pc' := 45) rfl ?_
  refine W.topI n (own_back n) ?_
  refine W.pulls ((nb, (own_Buf Z (.ref kp) (.ref f) (.int (n + (1 : Int32))))) :: (kp, (RA Z "java/lang/Object" (vs.set k (.ref q)))) :: (q, (own_P Z )) :: F) [2, 2] rfl ?_
  refine W.callV 0 rfl (mGet l Z n0 a0 hw ((q, own_P Z) :: F) nb kp f (n + 1) n (vs.set k (.ref q)) k q H.2.2.2.2.2.2 H.1 H.2.1 (by rw [List.getElem?_set_self (by rw [H.2.2.1]; exact H.2.2.2.1)])) d8_45 (wd hw 87 rfl) (wd hw 88 rfl) (wd hw 90 rfl) (wd hw 89 rfl) (wd hw 11 rfl) (wd hw 91 rfl) rfl (by decide) pd4 rfl rfl (Nat.le_of_ble_eq_true rfl) (Nat.le_of_ble_eq_true rfl) (Nat.le_of_ble_eq_true rfl) (Nat.le_of_ble_eq_true rfl) rfl (pc' := 48) rfl ?_
  intro v9 s9 q9
  rw [q9.1, q9.2]
  clear q9 v9 s9
  show W _ _ _ _ _ _ 3 77 ((nb, (own_Buf Z (.ref kp) (.ref f) (.int (n + (1 : Int32))))) :: (kp, (RA Z "java/lang/Object" (vs.set k (.ref q)))) :: (q, (own_P Z )) :: F) 48 #[.val (.ref nb)] [(.ref q)]
  refine W.pulls ((q, (own_P Z )) :: (nb, (own_Buf Z (.ref kp) (.ref f) (.int (n + (1 : Int32))))) :: (kp, (RA Z "java/lang/Object" (vs.set k (.ref q)))) :: F) [2] rfl ?_
  exact W.retA (t := (.object "java/lang/Object")) d8_48 rfl rfl rfl rfl (by decide) (by decide) ⟨_, rfl, rfl⟩
theorem pn_m_addName : plainFor (⟨"com/example/letterhead/letterhead/LetterBuffer$Action", "addName", "()Lcom/example/letterhead/letterhead/LetterBuffer$Part;"⟩ : MethodName) = true := by first | (refine plainFor_of_name ?_; simp [plainName, overriddenIn]; done) | (refine plainFor_of_name ?_; decide +kernel) | decide +kernel
set_option maxRecDepth 65536 in
set_option maxHeartbeats 40000000 in
theorem m_addName (l : Launch) (Z : State) (n0 : Nat) (a0 : Array Value) (hw : ∀ d ∈ tables_1, d.before a0 Z = true) (F : Asn) (a nb pb dt kp f : Addr) (dd : Int32) (hf : FnZ Z "com/example/letterhead/letterhead/LetterBuffer$Action" own_sh f) (n : Int32) (vs : List Value) (k : Nat) (H : own_ok n vs k) (b e9 : Addr) (hA : own_Att Z b e9) : Sp l Z n0 (⟨"com/example/letterhead/letterhead/LetterBuffer$Action", "addName", "()Lcom/example/letterhead/letterhead/LetterBuffer$Part;"⟩ : MethodName) prog_37_method_3_code 1 (some (.object "com/example/letterhead/letterhead/LetterBuffer$Part")) ({ frames := 5, cells := 3, slots := 77, locals := 64 } : Room) [(.ref a)] ((nb, (own_Buf Z (.ref kp) (.ref f) (.int n))) :: (kp, (RA Z "java/lang/Object" vs)) :: (a, (own_Act Z (.ref nb) (.ref pb) (.ref dt) (.int dd))) :: F) (fun v σ' => ∃ q, v = some (.ref q) ∧ σ' = (q, own_P Z) :: (nb, own_Buf Z (.ref kp) (.ref f) (.int (n + 1))) :: (kp, RA Z "java/lang/Object" (vs.set k (.ref q))) :: (a, (own_Act Z (.ref nb) (.ref pb) (.ref dt) (.int dd))) :: F) := by
  refine Sp.of (ls := #[.val (.ref a)]) pn_m_addName (fun m => by first | (simp [entryFrame, mkF, argsToLocals, Value.category]; done) | rfl) ?_
  show W _ _ _ _ _ _ 0 0 ((nb, (own_Buf Z (.ref kp) (.ref f) (.int n))) :: (kp, (RA Z "java/lang/Object" vs)) :: (a, (own_Act Z (.ref nb) (.ref pb) (.ref dt) (.int dd))) :: F) 0 #[.val (.ref a)] []
  refine W.aloadN d7_0 (pc' := 1) rfl rfl rfl ?_
  refine W.getF 2 0 d7_1 (host := "") (Or.inl (wd hw 25 rfl)) Via.refl rfl rfl (pc' := 4) rfl ?_
  refine W.callV 0 rfl (mAdd l Z n0 a0 hw ((a, (own_Act Z (.ref nb) (.ref pb) (.ref dt) (.int dd))) :: F) nb kp f hf n vs k H b e9 hA) d7_4 (wd hw 72 rfl) (wd hw 73 rfl) (wd hw 75 rfl) (wd hw 74 rfl) (wd hw 11 rfl) (wd hw 76 rfl) rfl (by decide) pd3 rfl rfl (Nat.le_of_ble_eq_true rfl) (Nat.le_of_ble_eq_true rfl) (Nat.le_of_ble_eq_true rfl) (Nat.le_of_ble_eq_true rfl) rfl (pc' := 7) rfl ?_
  rintro v9 s9 ⟨q, rfl, rfl⟩
  show W _ _ _ _ _ _ 3 77 ((q, (own_P Z )) :: (nb, (own_Buf Z (.ref kp) (.ref f) (.int (n + 1)))) :: (kp, (RA Z "java/lang/Object" (vs.set k (.ref q)))) :: (a, (own_Act Z (.ref nb) (.ref pb) (.ref dt) (.int dd))) :: F) 7 #[.val (.ref a)] [(.ref q)]
  refine W.cast 0 d7_7 (wd hw 30 rfl) rfl (pc' := 10) rfl ?_
  exact W.retA (t := (.object "com/example/letterhead/letterhead/LetterBuffer$Part")) d7_10 rfl rfl rfl rfl (by decide) (by decide) ⟨_, rfl, rfl⟩
theorem pn_m_addPlace : plainFor (⟨"com/example/letterhead/letterhead/LetterBuffer$Action", "addPlace", "()Lcom/example/letterhead/letterhead/LetterBuffer$Part;"⟩ : MethodName) = true := by first | (refine plainFor_of_name ?_; simp [plainName, overriddenIn]; done) | (refine plainFor_of_name ?_; decide +kernel) | decide +kernel
set_option maxRecDepth 65536 in
set_option maxHeartbeats 40000000 in
theorem m_addPlace (l : Launch) (Z : State) (n0 : Nat) (a0 : Array Value) (hw : ∀ d ∈ tables_1, d.before a0 Z = true) (F : Asn) (a nb pb dt kp f : Addr) (dd : Int32) (hf : FnZ Z "com/example/letterhead/letterhead/LetterBuffer$Action" own_sh f) (n : Int32) (vs : List Value) (k : Nat) (H : own_ok n vs k) (b e9 : Addr) (hA : own_Att Z b e9) : Sp l Z n0 (⟨"com/example/letterhead/letterhead/LetterBuffer$Action", "addPlace", "()Lcom/example/letterhead/letterhead/LetterBuffer$Part;"⟩ : MethodName) prog_37_method_4_code 1 (some (.object "com/example/letterhead/letterhead/LetterBuffer$Part")) ({ frames := 5, cells := 3, slots := 77, locals := 64 } : Room) [(.ref a)] ((nb, (own_Buf Z (.ref kp) (.ref f) (.int n))) :: (kp, (RA Z "java/lang/Object" vs)) :: (a, (own_Act Z (.ref pb) (.ref nb) (.ref dt) (.int dd))) :: F) (fun v σ' => ∃ q, v = some (.ref q) ∧ σ' = (q, own_P Z) :: (nb, own_Buf Z (.ref kp) (.ref f) (.int (n + 1))) :: (kp, RA Z "java/lang/Object" (vs.set k (.ref q))) :: (a, (own_Act Z (.ref pb) (.ref nb) (.ref dt) (.int dd))) :: F) := by
  refine Sp.of (ls := #[.val (.ref a)]) pn_m_addPlace (fun m => by first | (simp [entryFrame, mkF, argsToLocals, Value.category]; done) | rfl) ?_
  show W _ _ _ _ _ _ 0 0 ((nb, (own_Buf Z (.ref kp) (.ref f) (.int n))) :: (kp, (RA Z "java/lang/Object" vs)) :: (a, (own_Act Z (.ref pb) (.ref nb) (.ref dt) (.int dd))) :: F) 0 #[.val (.ref a)] []
  refine W.aloadN d11_0 (pc' := 1) rfl rfl rfl ?_
  refine W.getF 2 1 d11_1 (host := "") (Or.inl (wd hw 28 rfl)) Via.refl rfl rfl (pc' := 4) rfl ?_
  refine W.callV 0 rfl (mAdd l Z n0 a0 hw ((a, (own_Act Z (.ref pb) (.ref nb) (.ref dt) (.int dd))) :: F) nb kp f hf n vs k H b e9 hA) d11_4 (wd hw 72 rfl) (wd hw 73 rfl) (wd hw 75 rfl) (wd hw 74 rfl) (wd hw 11 rfl) (wd hw 76 rfl) rfl (by decide) pd3 rfl rfl (Nat.le_of_ble_eq_true rfl) (Nat.le_of_ble_eq_true rfl) (Nat.le_of_ble_eq_true rfl) (Nat.le_of_ble_eq_true rfl) rfl (pc' := 7) rfl ?_
  rintro v9 s9 ⟨q, rfl, rfl⟩
  show W _ _ _ _ _ _ 3 77 ((q, (own_P Z )) :: (nb, (own_Buf Z (.ref kp) (.ref f) (.int (n + 1)))) :: (kp, (RA Z "java/lang/Object" (vs.set k (.ref q)))) :: (a, (own_Act Z (.ref pb) (.ref nb) (.ref dt) (.int dd))) :: F) 7 #[.val (.ref a)] [(.ref q)]
  refine W.cast 0 d11_7 (wd hw 30 rfl) rfl (pc' := 10) rfl ?_
  exact W.retA (t := (.object "com/example/letterhead/letterhead/LetterBuffer$Part")) d11_10 rfl rfl rfl rfl (by decide) (by decide) ⟨_, rfl, rfl⟩
theorem pn_mDate0 : plainFor (⟨"com/example/letterhead/letterhead/LetterBuffer$Action", "date", "()Lcom/example/letterhead/letterhead/LetterBuffer$Part;"⟩ : MethodName) = true := by first | (refine plainFor_of_name ?_; simp [plainName, overriddenIn]; done) | (refine plainFor_of_name ?_; decide +kernel) | decide +kernel
set_option maxRecDepth 65536 in
set_option maxHeartbeats 40000000 in
theorem mDate0 (l : Launch) (Z : State) (n0 : Nat) (a0 : Array Value) (hw : ∀ d ∈ tables_1, d.before a0 Z = true) (F : Asn) (a nb pb dt : Addr) : Sp l Z n0 (⟨"com/example/letterhead/letterhead/LetterBuffer$Action", "date", "()Lcom/example/letterhead/letterhead/LetterBuffer$Part;"⟩ : MethodName) prog_37_method_11_code 1 (some (.object "com/example/letterhead/letterhead/LetterBuffer$Part")) ({ frames := 0, cells := 0, slots := 0, locals := 0 } : Room) [(.ref a)] ((a, (own_Act Z (.ref nb) (.ref pb) (.ref dt) (.int (0 : Int32)))) :: F) (Ret (some .null) ((a, (own_Act Z (.ref nb) (.ref pb) (.ref dt) (.int (0 : Int32)))) :: F)) := by
  refine Sp.of (ls := #[.val (.ref a)]) pn_mDate0 (fun m => by first | (simp [entryFrame, mkF, argsToLocals, Value.category]; done) | rfl) ?_
  show W _ _ _ _ _ _ 0 0 ((a, (own_Act Z (.ref nb) (.ref pb) (.ref dt) (.int (0 : Int32)))) :: F) 0 #[.val (.ref a)] []
  refine W.aloadN d6_0 (pc' := 1) rfl rfl rfl ?_
  refine W.getF 0 3 d6_1 (host := "") (Or.inl (wd hw 65 rfl)) Via.refl rfl rfl (pc' := 4) rfl ?_
  refine W.ifY d6_4 (by decide) (by decide) (pc' := 14) rfl ?_
  refine W.aconstNull d6_14 (pc' := 15) rfl ?_
  exact W.retA (t := (.object "com/example/letterhead/letterhead/LetterBuffer$Part")) d6_15 rfl rfl rfl rfl (by decide) (by decide) ⟨rfl, rfl⟩
theorem pn_mDate1 : plainFor (⟨"com/example/letterhead/letterhead/LetterBuffer$Action", "date", "()Lcom/example/letterhead/letterhead/LetterBuffer$Part;"⟩ : MethodName) = true := by first | (refine plainFor_of_name ?_; simp [plainName, overriddenIn]; done) | (refine plainFor_of_name ?_; decide +kernel) | decide +kernel
set_option maxRecDepth 65536 in
set_option maxHeartbeats 40000000 in
theorem mDate1 (l : Launch) (Z : State) (n0 : Nat) (a0 : Array Value) (hw : ∀ d ∈ tables_1, d.before a0 Z = true) (F : Asn) (a nb pb dt : Addr) : Sp l Z n0 (⟨"com/example/letterhead/letterhead/LetterBuffer$Action", "date", "()Lcom/example/letterhead/letterhead/LetterBuffer$Part;"⟩ : MethodName) prog_37_method_11_code 1 (some (.object "com/example/letterhead/letterhead/LetterBuffer$Part")) ({ frames := 0, cells := 0, slots := 0, locals := 0 } : Room) [(.ref a)] ((a, (own_Act Z (.ref nb) (.ref pb) (.ref dt) (.int (1 : Int32)))) :: F) (Ret (some (.ref dt)) ((a, (own_Act Z (.ref nb) (.ref pb) (.ref dt) (.int (1 : Int32)))) :: F)) := by
  refine Sp.of (ls := #[.val (.ref a)]) pn_mDate1 (fun m => by first | (simp [entryFrame, mkF, argsToLocals, Value.category]; done) | rfl) ?_
  show W _ _ _ _ _ _ 0 0 ((a, (own_Act Z (.ref nb) (.ref pb) (.ref dt) (.int (1 : Int32)))) :: F) 0 #[.val (.ref a)] []
  refine W.aloadN d6_0 (pc' := 1) rfl rfl rfl ?_
  refine W.getF 0 3 d6_1 (host := "") (Or.inl (wd hw 65 rfl)) Via.refl rfl rfl (pc' := 4) rfl ?_
  refine W.ifN d6_4 (by decide) (pc' := 7) rfl ?_
  refine W.aloadN d6_7 (pc' := 8) rfl rfl rfl ?_
  refine W.getF 0 2 d6_8 (host := "") (Or.inl (wd hw 58 rfl)) Via.refl rfl rfl (pc' := 11) rfl ?_
  refine W.goto d6_11 (pc' := 15) (by decide) rfl ?_
  exact W.retA (t := (.object "com/example/letterhead/letterhead/LetterBuffer$Part")) d6_15 rfl rfl rfl rfl (by decide) (by decide) ⟨rfl, rfl⟩
theorem pn_mAddDate : plainFor (⟨"com/example/letterhead/letterhead/LetterBuffer$Action", "addDate", "()Lcom/example/letterhead/letterhead/LetterBuffer$Part;"⟩ : MethodName) = true := by first | (refine plainFor_of_name ?_; simp [plainName, overriddenIn]; done) | (refine plainFor_of_name ?_; decide +kernel) | decide +kernel
set_option maxRecDepth 65536 in
set_option maxHeartbeats 40000000 in
theorem mAddDate (l : Launch) (Z : State) (n0 : Nat) (a0 : Array Value) (hw : ∀ d ∈ tables_1, d.before a0 Z = true) (F : Asn) (a nb pb dt : Addr) (dd : Int32) : Sp l Z n0 (⟨"com/example/letterhead/letterhead/LetterBuffer$Action", "addDate", "()Lcom/example/letterhead/letterhead/LetterBuffer$Part;"⟩ : MethodName) prog_37_method_5_code 1 (some (.object "com/example/letterhead/letterhead/LetterBuffer$Part")) ({ frames := 0, cells := 0, slots := 0, locals := 0 } : Room) [(.ref a)] ((a, (own_Act Z (.ref nb) (.ref pb) (.ref dt) (.int dd))) :: F) (Ret (some (.ref dt)) ((a, (own_Act Z (.ref nb) (.ref pb) (.ref dt) (.int (1 : Int32)))) :: F)) := by
  refine Sp.of (ls := #[.val (.ref a)]) pn_mAddDate (fun m => by first | (simp [entryFrame, mkF, argsToLocals, Value.category]; done) | rfl) ?_
  show W _ _ _ _ _ _ 0 0 ((a, (own_Act Z (.ref nb) (.ref pb) (.ref dt) (.int dd))) :: F) 0 #[.val (.ref a)] []
  refine W.aloadN d12_0 (pc' := 1) rfl rfl rfl ?_
  refine W.iconst (1 : Int32) d12_1 (pc' := 2) rfl rfl ?_
  refine W.putF ((a, (own_Act Z (.ref nb) (.ref pb) (.ref dt) (.int (1 : Int32)))) :: F) 0 3 d12_2 (host := "") (Or.inl (wd hw 65 rfl)) Via.refl (Or.inl (wd hw 66 rfl)) (wd hw 1 rfl) (ty := .boolean) (by decide) rfl rfl rfl rfl rfl (pc' := 5) rfl ?_
  refine W.aloadN d12_5 (pc' := 6) rfl rfl rfl ?_
  refine W.getF 0 2 d12_6 (host := "") (Or.inl (wd hw 58 rfl)) Via.refl rfl rfl (pc' := 9) rfl ?_
  exact W.retA (t := (.object "com/example/letterhead/letterhead/LetterBuffer$Part")) d12_9 rfl rfl rfl rfl (by decide) (by decide) ⟨rfl, rfl⟩
theorem pn_m0 : plainFor x = true := by first | (refine plainFor_of_name ?_; simp [plainName, overriddenIn]; done) | (refine plainFor_of_name ?_; decide +kernel) | decide +kernel
set_option maxRecDepth 65536 in
set_option maxHeartbeats 40000000 in
theorem m0 (l : Launch) (Z : State) (n0 : Nat) (a0 : Array Value) (hw : ∀ d ∈ tables_1, d.before a0 Z = true) (fl : Int32) (b e9 : Addr) (hA : own_Att Z b e9) : Sp l Z n0 x code maxLocals ret room_1 [(.int fl)] [] (fun v _ => v = some (.int 1)) := by
  refine Sp.of (ls := #[.val (.int fl), .unset, .unset, .unset, .unset, .unset, .unset, .unset, .unset, .unset, .unset, .unset]) pn_m0 (fun m => by first | (simp [entryFrame, mkF, argsToLocals, Value.category, maxLocals]; done) | rfl) ?_
  show W _ _ _ _ _ _ 0 0 [] 0 #[.val (.int fl), .unset, .unset, .unset, .unset, .unset, .unset, .unset, .unset, .unset, .unset, .unset] []
  refine W.iloadN at_0 (pc' := 1) rfl rfl ?_
  refine W.iconst (1 : Int32) at_1 (pc' := 2) rfl rfl ?_
  refine W.iand at_2 (pc' := 3) rfl ?_
  have j_z1 : ∀ (z1 : Int32) (_ : z1 = (if (fl &&& (1 : Int32)) = 0 then (0 : Int32) else (1 : Int32))), W l Z n0 (x.cls, x.name, code, maxLocals, ret, x.desc) room_1 (fun v _ => v = some (.int 1)) 0 0 [] 11 #[.val (.int fl), .unset, .unset, .unset, .unset, .unset, .unset, .unset, .unset, .unset, .unset, .unset] [(.int z1)] := by
    intro z1 h_z1
    refine W.istoreN #[.val (.int fl), .val (.int z1), .unset, .unset, .unset, .unset, .unset, .unset, .unset, .unset, .unset, .unset] at_11 (pc' := 12) rfl rfl ?_
    refine W.iloadN at_12 (pc' := 13) rfl rfl ?_
    refine W.iconst (2 : Int32) at_13 (pc' := 14) rfl rfl ?_
    refine W.iand at_14 (pc' := 15) rfl ?_
    have j_z2 : ∀ (z2 : Int32) (_ : z2 = (if (fl &&& (2 : Int32)) = 0 then (0 : Int32) else (1 : Int32))), W l Z n0 (x.cls, x.name, code, maxLocals, ret, x.desc) room_1 (fun v _ => v = some (.int 1)) 0 0 [] 23 #[.val (.int fl), .val (.int z1), .unset, .unset, .unset, .unset, .unset, .unset, .unset, .unset, .unset, .unset] [(.int z2)] := by
      intro z2 h_z2
      refine W.istoreN #[.val (.int fl), .val (.int z1), .val (.int z2), .unset, .unset, .unset, .unset, .unset, .unset, .unset, .unset, .unset] at_23 (pc' := 24) rfl rfl ?_
      refine W.iloadN at_24 (pc' := 25) rfl rfl ?_
      refine W.iconst (4 : Int32) at_25 (pc' := 26) rfl rfl ?_
      refine W.iand at_26 (pc' := 27) rfl ?_
      have j_z3 : ∀ (z3 : Int32) (_ : z3 = (if (fl &&& (4 : Int32)) = 0 then (0 : Int32) else (1 : Int32))), W l Z n0 (x.cls, x.name, code, maxLocals, ret, x.desc) room_1 (fun v _ => v = some (.int 1)) 0 0 [] 35 #[.val (.int fl), .val (.int z1), .val (.int z2), .unset, .unset, .unset, .unset, .unset, .unset, .unset, .unset, .unset] [(.int z3)] := by
        intro z3 h_z3
        refine W.istoreN #[.val (.int fl), .val (.int z1), .val (.int z2), .val (.int z3), .unset, .unset, .unset, .unset, .unset, .unset, .unset, .unset] at_35 (pc' := 36) rfl rfl ?_
        refine W.iloadN at_36 (pc' := 37) rfl rfl ?_
        refine W.bipush (8 : Int32) at_37 (pc' := 39) rfl rfl ?_
        refine W.iand at_39 (pc' := 40) rfl ?_
        have j_z4 : ∀ (z4 : Int32) (_ : z4 = (if (fl &&& (8 : Int32)) = 0 then (0 : Int32) else (1 : Int32))), W l Z n0 (x.cls, x.name, code, maxLocals, ret, x.desc) room_1 (fun v _ => v = some (.int 1)) 0 0 [] 48 #[.val (.int fl), .val (.int z1), .val (.int z2), .val (.int z3), .unset, .unset, .unset, .unset, .unset, .unset, .unset, .unset] [(.int z4)] := by
          intro z4 h_z4
          refine W.istore #[.val (.int fl), .val (.int z1), .val (.int z2), .val (.int z3), .val (.int z4), .unset, .unset, .unset, .unset, .unset, .unset, .unset] at_48 (pc' := 50) rfl rfl ?_
          refine W.iloadN at_50 (pc' := 51) rfl rfl ?_
          refine W.bipush (16 : Int32) at_51 (pc' := 53) rfl rfl ?_
          refine W.iand at_53 (pc' := 54) rfl ?_
          have j_z5 : ∀ (z5 : Int32) (_ : z5 = (if (fl &&& (16 : Int32)) = 0 then (0 : Int32) else (1 : Int32))), W l Z n0 (x.cls, x.name, code, maxLocals, ret, x.desc) room_1 (fun v _ => v = some (.int 1)) 0 0 [] 62 #[.val (.int fl), .val (.int z1), .val (.int z2), .val (.int z3), .val (.int z4), .unset, .unset, .unset, .unset, .unset, .unset, .unset] [(.int z5)] := by
            intro z5 h_z5
            refine W.istore #[.val (.int fl), .val (.int z1), .val (.int z2), .val (.int z3), .val (.int z4), .val (.int z5), .unset, .unset, .unset, .unset, .unset, .unset] at_62 (pc' := 64) rfl rfl ?_
            refine W.new [("com/example/letterhead/letterhead/LetterBuffer$Action", "names", "Lcom/example/letterhead/letterhead/LetterBuffer$Buffers;", .null), ("com/example/letterhead/letterhead/LetterBuffer$Action", "places", "Lcom/example/letterhead/letterhead/LetterBuffer$Buffers;", .null), ("com/example/letterhead/letterhead/LetterBuffer$Action", "date", "Lcom/example/letterhead/letterhead/LetterBuffer$Part;", .null), ("com/example/letterhead/letterhead/LetterBuffer$Action", "dated", "Z", (.int (0 : Int32)))] at_64 (wd hw 0 rfl) (wd hw 1 rfl) (wd hw 2 rfl) ⟨⟨Or.inr (wd hw 26 rfl), (.object "com/example/letterhead/letterhead/LetterBuffer$Buffers"), by decide, rfl⟩, ⟨Or.inr (wd hw 29 rfl), (.object "com/example/letterhead/letterhead/LetterBuffer$Buffers"), by decide, rfl⟩, ⟨Or.inr (wd hw 59 rfl), (.object "com/example/letterhead/letterhead/LetterBuffer$Part"), by decide, rfl⟩, ⟨Or.inl (wd hw 66 rfl), .boolean, by decide, rfl⟩, trivial⟩ (by decide) (by decide) (by decide) (pc' := 67) rfl ?_
            intro a
            show W _ _ _ _ _ _ 1 8 [(a, (own_Act Z .null .null .null (.int (0 : Int32))))] 67 #[.val (.int fl), .val (.int z1), .val (.int z2), .val (.int z3), .val (.int z4), .val (.int z5), .unset, .unset, .unset, .unset, .unset, .unset] [(.ref a)]
            refine W.dup at_67 (pc' := 68) rfl rfl ?_
            refine W.callI (mAInit l Z n0 a0 hw [] a b e9 hA) at_68 rfl (wd hw 3 rfl) (wd hw 4 rfl) (wd hw 2 rfl) (wd hw 5 rfl) (by decide) pd2 rfl rfl (Nat.le_of_ble_eq_true rfl) (Nat.le_of_ble_eq_true rfl) (Nat.le_of_ble_eq_true rfl) (Nat.le_of_ble_eq_true rfl) rfl (pc' := 71) rfl ?_
            rintro v9 s9 ⟨rfl, nb, pb, dt, kp, kq, f1, f2, hf1, hf2, rfl⟩
            show W _ _ _ _ _ _ 8 99 [(a, (own_Act Z (.ref nb) (.ref pb) (.ref dt) (.int (0 : Int32)))), (nb, (own_Buf Z (.ref kp) (.ref f1) (.int (0 : Int32)))), (kp, (RA Z "java/lang/Object" (List.replicate 4 .null))), (pb, (own_Buf Z (.ref kq) (.ref f2) (.int (0 : Int32)))), (kq, (RA Z "java/lang/Object" (List.replicate 4 .null))), (dt, (own_P Z ))] 71 #[.val (.int fl), .val (.int z1), .val (.int z2), .val (.int z3), .val (.int z4), .val (.int z5), .unset, .unset, .unset, .unset, .unset, .unset] [(.ref a)]
            refine W.astore #[.val (.int fl), .val (.int z1), .val (.int z2), .val (.int z3), .val (.int z4), .val (.int z5), .val (.ref a), .unset, .unset, .unset, .unset, .unset] at_71 (pc' := 73) rfl rfl rfl ?_
            refine W.aconstNull at_73 (pc' := 74) rfl ?_
            refine W.astore #[.val (.int fl), .val (.int z1), .val (.int z2), .val (.int z3), .val (.int z4), .val (.int z5), .val (.ref a), .val .null, .unset, .unset, .unset, .unset] at_74 (pc' := 76) rfl rfl rfl ?_
            refine W.aconstNull at_76 (pc' := 77) rfl ?_
            refine W.astore #[.val (.int fl), .val (.int z1), .val (.int z2), .val (.int z3), .val (.int z4), .val (.int z5), .val (.ref a), .val .null, .val .null, .unset, .unset, .unset] at_77 (pc' := 79) rfl rfl rfl ?_
            refine W.iloadN at_79 (pc' := 80) rfl rfl ?_
            have j90 : ∀ (nv : Value) (hr : nv.isRef = true) (hne : nv ≠ .ref dt) (n : Int32) (vs : List Value) (k : Nat) (H : own_ok n vs k), W l Z n0 (x.cls, x.name, code, maxLocals, ret, x.desc) room_1 (fun v _ => v = some (.int 1)) 11 176 [(a, (own_Act Z (.ref nb) (.ref pb) (.ref dt) (.int (0 : Int32)))), (nb, (own_Buf Z (.ref kp) (.ref f1) (.int n))), (kp, (RA Z "java/lang/Object" vs)), (pb, (own_Buf Z (.ref kq) (.ref f2) (.int (0 : Int32)))), (kq, (RA Z "java/lang/Object" (List.replicate 4 .null))), (dt, (own_P Z ))] 90 #[.val (.int fl), .val (.int z1), .val (.int z2), .val (.int z3), .val (.int z4), .val (.int z5), .val (.ref a), .val nv, .val .null, .unset, .unset, .unset] [] := by
              intro nv hr hne n vs k H
              refine W.iloadN at_90 (pc' := 91) rfl rfl ?_
              have j101 : ∀ (pv : Value) (hp : pv.isRef = true) (hpe : pv ≠ .ref dt), W l Z n0 (x.cls, x.name, code, maxLocals, ret, x.desc) room_1 (fun v _ => v = some (.int 1)) 14 253 [(a, (own_Act Z (.ref nb) (.ref pb) (.ref dt) (.int (0 : Int32)))), (nb, (own_Buf Z (.ref kp) (.ref f1) (.int n))), (kp, (RA Z "java/lang/Object" vs)), (dt, (own_P Z ))] 101 #[.val (.int fl), .val (.int z1), .val (.int z2), .val (.int z3), .val (.int z4), .val (.int z5), .val (.ref a), .val nv, .val pv, .unset, .unset, .unset] [] := by
                intro pv hp hpe
                refine W.aload at_101 (pc' := 103) rfl rfl rfl ?_
                refine W.callV 0 rfl (mDate0 l Z n0 a0 hw [(nb, (own_Buf Z (.ref kp) (.ref f1) (.int n))), (kp, (RA Z "java/lang/Object" vs)), (dt, (own_P Z ))] a nb pb dt) at_103 (wd hw 60 rfl) (wd hw 61 rfl) (wd hw 63 rfl) (wd hw 62 rfl) (wd hw 2 rfl) (wd hw 64 rfl) rfl (by decide) pd5 rfl rfl (Nat.le_of_ble_eq_true rfl) (Nat.le_of_ble_eq_true rfl) (Nat.le_of_ble_eq_true rfl) (Nat.le_of_ble_eq_true rfl) rfl (pc' := 106) rfl ?_
                intro v9 s9 q9
                rw [q9.1, q9.2]
                clear q9 v9 s9
                show W _ _ _ _ _ _ 14 253 [(a, (own_Act Z (.ref nb) (.ref pb) (.ref dt) (.int (0 : Int32)))), (nb, (own_Buf Z (.ref kp) (.ref f1) (.int n))), (kp, (RA Z "java/lang/Object" vs)), (dt, (own_P Z ))] 106 #[.val (.int fl), .val (.int z1), .val (.int z2), .val (.int z3), .val (.int z4), .val (.int z5), .val (.ref a), .val nv, .val pv, .unset, .unset, .unset] [.null]
                refine W.nonnullN at_106  (pc' := 109) rfl ?_
                refine W.iconst (1 : Int32) at_109 (pc' := 110) rfl rfl ?_
                refine W.goto at_110 (pc' := 114) (by decide) rfl ?_
                refine W.istore #[.val (.int fl), .val (.int z1), .val (.int z2), .val (.int z3), .val (.int z4), .val (.int z5), .val (.ref a), .val nv, .val pv, .val (.int (1 : Int32)), .unset, .unset] at_114 (pc' := 116) rfl rfl ?_
                refine W.aconstNull at_116 (pc' := 117) rfl ?_
                refine W.astore #[.val (.int fl), .val (.int z1), .val (.int z2), .val (.int z3), .val (.int z4), .val (.int z5), .val (.ref a), .val nv, .val pv, .val (.int (1 : Int32)), .val .null, .unset] at_117 (pc' := 119) rfl rfl rfl ?_
                refine W.iloadN at_119 (pc' := 120) rfl rfl ?_
                by_cases h3 : z3 = 0
                · refine W.ifY at_120 (XT.i0_eq_t h3) (by decide) (pc' := 178) rfl ?_
                  refine W.iload at_178 (pc' := 180) rfl rfl ?_
                  by_cases h5 : z5 = 0
                  · refine W.ifY at_180 (XT.i0_eq_t h5) (by decide) (pc' := 209) rfl ?_
                    refine W.aload at_209 (pc' := 211) rfl rfl rfl ?_
                    refine W.callV 0 rfl (mDate0 l Z n0 a0 hw [(nb, (own_Buf Z (.ref kp) (.ref f1) (.int n))), (kp, (RA Z "java/lang/Object" vs)), (dt, (own_P Z ))] a nb pb dt) at_211 (wd hw 60 rfl) (wd hw 61 rfl) (wd hw 63 rfl) (wd hw 62 rfl) (wd hw 2 rfl) (wd hw 64 rfl) rfl (by decide) pd5 rfl rfl (Nat.le_of_ble_eq_true rfl) (Nat.le_of_ble_eq_true rfl) (Nat.le_of_ble_eq_true rfl) (Nat.le_of_ble_eq_true rfl) rfl (pc' := 214) rfl ?_
                    intro v9 s9 q9
                    rw [q9.1, q9.2]
                    clear q9 v9 s9
                    show W _ _ _ _ _ _ 14 253 [(a, (own_Act Z (.ref nb) (.ref pb) (.ref dt) (.int (0 : Int32)))), (nb, (own_Buf Z (.ref kp) (.ref f1) (.int n))), (kp, (RA Z "java/lang/Object" vs)), (dt, (own_P Z ))] 214 #[.val (.int fl), .val (.int z1), .val (.int z2), .val (.int z3), .val (.int z4), .val (.int z5), .val (.ref a), .val nv, .val pv, .val (.int (1 : Int32)), .val .null, .unset] [.null]
                    refine W.astore #[.val (.int fl), .val (.int z1), .val (.int z2), .val (.int z3), .val (.int z4), .val (.int z5), .val (.ref a), .val nv, .val pv, .val (.int (1 : Int32)), .val .null, .val .null] at_214 (pc' := 216) rfl rfl rfl ?_
                    refine W.iloadN at_216 (pc' := 217) rfl rfl ?_
                    refine W.ifY at_217 (XT.i0_eq_t h3) (by decide) (pc' := 273) rfl ?_
                    refine W.iload at_273 (pc' := 275) rfl rfl ?_
                    refine W.ifN at_275 (by decide) (pc' := 278) rfl ?_
                    refine W.aload at_278 (pc' := 280) rfl rfl rfl ?_
                    refine W.nonnullN at_280  (pc' := 283) rfl ?_
                    refine W.iconst (1 : Int32) at_283 (pc' := 284) rfl rfl ?_
                    refine W.goto at_284 (pc' := 288) (by decide) rfl ?_
                    refine W.istore #[.val (.int fl), .val (.int z1), .val (.int z2), .val (.int z3), .val (.int z4), .val (.int z5), .val (.ref a), .val nv, .val pv, .val (.int (1 : Int32)), .val .null, .val .null] at_288 (pc' := 290) rfl rfl ?_
                    refine W.iload at_290 (pc' := 292) rfl rfl ?_
                    exact W.retN (t := .boolean) 1 at_292 rfl (by simp) rfl (by decide) (by decide) rfl
                  · refine W.ifN at_180 (XT.i0_eq_f h5) (pc' := 183) rfl ?_
                    refine W.aload at_183 (pc' := 185) rfl rfl rfl ?_
                    refine W.pulls [(nb, (own_Buf Z (.ref kp) (.ref f1) (.int n))), (kp, (RA Z "java/lang/Object" vs)), (a, (own_Act Z (.ref nb) (.ref pb) (.ref dt) (.int (0 : Int32)))), (dt, (own_P Z ))] [2, 2] rfl ?_
                    refine W.callV 2 rfl (m_addName l Z n0 a0 hw [(dt, own_P Z)] a nb pb dt kp f1 0 hf1 n vs k H b e9 hA) at_185 (wd hw 67 rfl) (wd hw 68 rfl) (wd hw 70 rfl) (wd hw 69 rfl) (wd hw 2 rfl) (wd hw 71 rfl) rfl (by decide) pd5 rfl rfl (Nat.le_of_ble_eq_true rfl) (Nat.le_of_ble_eq_true rfl) (Nat.le_of_ble_eq_true rfl) (Nat.le_of_ble_eq_true rfl) rfl (pc' := 188) rfl ?_
                    rintro v9 s9 ⟨q3, rfl, rfl⟩
                    show W _ _ _ _ _ _ 17 330 [(q3, (own_P Z )), (nb, (own_Buf Z (.ref kp) (.ref f1) (.int (n + 1)))), (kp, (RA Z "java/lang/Object" (vs.set k (.ref q3)))), (a, (own_Act Z (.ref nb) (.ref pb) (.ref dt) (.int (0 : Int32)))), (dt, (own_P Z ))] 188 #[.val (.int fl), .val (.int z1), .val (.int z2), .val (.int z3), .val (.int z4), .val (.int z5), .val (.ref a), .val nv, .val pv, .val (.int (1 : Int32)), .val .null, .unset] [(.ref q3)]
                    refine W.ne 0 4 rfl rfl (by decide) (fun hne3 => ?_)
                    refine W.astore #[.val (.int fl), .val (.int z1), .val (.int z2), .val (.int z3), .val (.int z4), .val (.int z5), .val (.ref a), .val nv, .val pv, .val (.int (1 : Int32)), .val .null, .val (.ref q3)] at_188 (pc' := 190) rfl rfl rfl ?_
                    refine W.iload at_190 (pc' := 192) rfl rfl ?_
                    refine W.ifN at_192 (by decide) (pc' := 195) rfl ?_
                    refine W.aload at_195 (pc' := 197) rfl rfl rfl ?_
                    refine W.aload at_197 (pc' := 199) rfl rfl rfl ?_
                    refine W.acmpN at_199 rfl rfl (XT.aa_eq_f (fun h => by cases h)) (pc' := 202) rfl ?_
                    refine W.iconst (1 : Int32) at_202 (pc' := 203) rfl rfl ?_
                    refine W.goto at_203 (pc' := 207) (by decide) rfl ?_
                    refine W.istore #[.val (.int fl), .val (.int z1), .val (.int z2), .val (.int z3), .val (.int z4), .val (.int z5), .val (.ref a), .val nv, .val pv, .val (.int (1 : Int32)), .val .null, .val (.ref q3)] at_207 (pc' := 209) rfl rfl ?_
                    refine W.aload at_209 (pc' := 211) rfl rfl rfl ?_
                    refine W.pulls [(a, (own_Act Z (.ref nb) (.ref pb) (.ref dt) (.int (0 : Int32)))), (q3, (own_P Z )), (nb, (own_Buf Z (.ref kp) (.ref f1) (.int (n + 1)))), (kp, (RA Z "java/lang/Object" (vs.set k (.ref q3)))), (dt, (own_P Z ))] [3] rfl ?_
                    refine W.callV 0 rfl (mDate0 l Z n0 a0 hw [(q3, (own_P Z )), (nb, (own_Buf Z (.ref kp) (.ref f1) (.int (n + 1)))), (kp, (RA Z "java/lang/Object" (vs.set k (.ref q3)))), (dt, (own_P Z ))] a nb pb dt) at_211 (wd hw 60 rfl) (wd hw 61 rfl) (wd hw 63 rfl) (wd hw 62 rfl) (wd hw 2 rfl) (wd hw 64 rfl) rfl (by decide) pd5 rfl rfl (Nat.le_of_ble_eq_true rfl) (Nat.le_of_ble_eq_true rfl) (Nat.le_of_ble_eq_true rfl) (Nat.le_of_ble_eq_true rfl) rfl (pc' := 214) rfl ?_
                    intro v9 s9 q9
                    rw [q9.1, q9.2]
                    clear q9 v9 s9
                    show W _ _ _ _ _ _ 17 330 [(a, (own_Act Z (.ref nb) (.ref pb) (.ref dt) (.int (0 : Int32)))), (q3, (own_P Z )), (nb, (own_Buf Z (.ref kp) (.ref f1) (.int (n + 1)))), (kp, (RA Z "java/lang/Object" (vs.set k (.ref q3)))), (dt, (own_P Z ))] 214 #[.val (.int fl), .val (.int z1), .val (.int z2), .val (.int z3), .val (.int z4), .val (.int z5), .val (.ref a), .val nv, .val pv, .val (.int (1 : Int32)), .val .null, .val (.ref q3)] [.null]
                    refine W.astore #[.val (.int fl), .val (.int z1), .val (.int z2), .val (.int z3), .val (.int z4), .val (.int z5), .val (.ref a), .val nv, .val pv, .val (.int (1 : Int32)), .val .null, .val .null] at_214 (pc' := 216) rfl rfl rfl ?_
                    refine W.iloadN at_216 (pc' := 217) rfl rfl ?_
                    refine W.ifY at_217 (XT.i0_eq_t h3) (by decide) (pc' := 273) rfl ?_
                    refine W.iload at_273 (pc' := 275) rfl rfl ?_
                    refine W.ifN at_275 (by decide) (pc' := 278) rfl ?_
                    refine W.aload at_278 (pc' := 280) rfl rfl rfl ?_
                    refine W.nonnullN at_280  (pc' := 283) rfl ?_
                    refine W.iconst (1 : Int32) at_283 (pc' := 284) rfl rfl ?_
                    refine W.goto at_284 (pc' := 288) (by decide) rfl ?_
                    refine W.istore #[.val (.int fl), .val (.int z1), .val (.int z2), .val (.int z3), .val (.int z4), .val (.int z5), .val (.ref a), .val nv, .val pv, .val (.int (1 : Int32)), .val .null, .val .null] at_288 (pc' := 290) rfl rfl ?_
                    refine W.iload at_290 (pc' := 292) rfl rfl ?_
                    exact W.retN (t := .boolean) 1 at_292 rfl (by simp) rfl (by decide) (by decide) rfl
                · refine W.ifN at_120 (XT.i0_eq_f h3) (pc' := 123) rfl ?_
                  refine W.aload at_123 (pc' := 125) rfl rfl rfl ?_
                  refine W.callV 0 rfl (mAddDate l Z n0 a0 hw [(nb, (own_Buf Z (.ref kp) (.ref f1) (.int n))), (kp, (RA Z "java/lang/Object" vs)), (dt, (own_P Z ))] a nb pb dt 0) at_125 (wd hw 97 rfl) (wd hw 98 rfl) (wd hw 100 rfl) (wd hw 99 rfl) (wd hw 2 rfl) (wd hw 101 rfl) rfl (by decide) pd5 rfl rfl (Nat.le_of_ble_eq_true rfl) (Nat.le_of_ble_eq_true rfl) (Nat.le_of_ble_eq_true rfl) (Nat.le_of_ble_eq_true rfl) rfl (pc' := 128) rfl ?_
                  intro v9 s9 q9
                  rw [q9.1, q9.2]
                  clear q9 v9 s9
                  show W _ _ _ _ _ _ 14 253 [(a, (own_Act Z (.ref nb) (.ref pb) (.ref dt) (.int (1 : Int32)))), (nb, (own_Buf Z (.ref kp) (.ref f1) (.int n))), (kp, (RA Z "java/lang/Object" vs)), (dt, (own_P Z ))] 128 #[.val (.int fl), .val (.int z1), .val (.int z2), .val (.int z3), .val (.int z4), .val (.int z5), .val (.ref a), .val nv, .val pv, .val (.int (1 : Int32)), .val .null, .unset] [(.ref dt)]
                  refine W.astore #[.val (.int fl), .val (.int z1), .val (.int z2), .val (.int z3), .val (.int z4), .val (.int z5), .val (.ref a), .val nv, .val pv, .val (.int (1 : Int32)), .val (.ref dt), .unset] at_128 (pc' := 130) rfl rfl rfl ?_
                  refine W.iload at_130 (pc' := 132) rfl rfl ?_
                  refine W.ifN at_132 (by decide) (pc' := 135) rfl ?_
                  refine W.aload at_135 (pc' := 137) rfl rfl rfl ?_
                  refine W.nullN at_137  (pc' := 140) rfl ?_
                  refine W.iconst (1 : Int32) at_140 (pc' := 141) rfl rfl ?_
                  refine W.goto at_141 (pc' := 145) (by decide) rfl ?_
                  refine W.istore #[.val (.int fl), .val (.int z1), .val (.int z2), .val (.int z3), .val (.int z4), .val (.int z5), .val (.ref a), .val nv, .val pv, .val (.int (1 : Int32)), .val (.ref dt), .unset] at_145 (pc' := 147) rfl rfl ?_
                  refine W.iload at_147 (pc' := 149) rfl rfl ?_
                  by_cases h4 : z4 = 0
                  · refine W.ifY at_149 (XT.i0_eq_t h4) (by decide) (pc' := 178) rfl ?_
                    refine W.iload at_178 (pc' := 180) rfl rfl ?_
                    by_cases h5 : z5 = 0
                    · refine W.ifY at_180 (XT.i0_eq_t h5) (by decide) (pc' := 209) rfl ?_
                      refine W.aload at_209 (pc' := 211) rfl rfl rfl ?_
                      refine W.callV 0 rfl (mDate1 l Z n0 a0 hw [(nb, (own_Buf Z (.ref kp) (.ref f1) (.int n))), (kp, (RA Z "java/lang/Object" vs)), (dt, (own_P Z ))] a nb pb dt) at_211 (wd hw 60 rfl) (wd hw 61 rfl) (wd hw 63 rfl) (wd hw 62 rfl) (wd hw 2 rfl) (wd hw 64 rfl) rfl (by decide) pd5 rfl rfl (Nat.le_of_ble_eq_true rfl) (Nat.le_of_ble_eq_true rfl) (Nat.le_of_ble_eq_true rfl) (Nat.le_of_ble_eq_true rfl) rfl (pc' := 214) rfl ?_
                      intro v9 s9 q9
                      rw [q9.1, q9.2]
                      clear q9 v9 s9
                      show W _ _ _ _ _ _ 14 253 [(a, (own_Act Z (.ref nb) (.ref pb) (.ref dt) (.int (1 : Int32)))), (nb, (own_Buf Z (.ref kp) (.ref f1) (.int n))), (kp, (RA Z "java/lang/Object" vs)), (dt, (own_P Z ))] 214 #[.val (.int fl), .val (.int z1), .val (.int z2), .val (.int z3), .val (.int z4), .val (.int z5), .val (.ref a), .val nv, .val pv, .val (.int (1 : Int32)), .val (.ref dt), .unset] [(.ref dt)]
                      refine W.astore #[.val (.int fl), .val (.int z1), .val (.int z2), .val (.int z3), .val (.int z4), .val (.int z5), .val (.ref a), .val nv, .val pv, .val (.int (1 : Int32)), .val (.ref dt), .val (.ref dt)] at_214 (pc' := 216) rfl rfl rfl ?_
                      refine W.iloadN at_216 (pc' := 217) rfl rfl ?_
                      refine W.ifN at_217 (XT.i0_eq_f h3) (pc' := 220) rfl ?_
                      refine W.iload at_220 (pc' := 222) rfl rfl ?_
                      refine W.ifN at_222 (by decide) (pc' := 225) rfl ?_
                      refine W.aload at_225 (pc' := 227) rfl rfl rfl ?_
                      refine W.nullN at_227  (pc' := 230) rfl ?_
                      refine W.aload at_230 (pc' := 232) rfl rfl rfl ?_
                      refine W.aload at_232 (pc' := 234) rfl rfl rfl ?_
                      refine W.acmpN at_234 rfl rfl (XT.aa_ne_f rfl) (pc' := 237) rfl ?_
                      refine W.iconst (1 : Int32) at_237 (pc' := 238) rfl rfl ?_
                      refine W.goto at_238 (pc' := 242) (by decide) rfl ?_
                      refine W.istore #[.val (.int fl), .val (.int z1), .val (.int z2), .val (.int z3), .val (.int z4), .val (.int z5), .val (.ref a), .val nv, .val pv, .val (.int (1 : Int32)), .val (.ref dt), .val (.ref dt)] at_242 (pc' := 244) rfl rfl ?_
                      refine W.iload at_244 (pc' := 246) rfl rfl ?_
                      refine W.ifN at_246 (by decide) (pc' := 249) rfl ?_
                      refine W.aload at_249 (pc' := 251) rfl rfl rfl ?_
                      refine W.aload at_251 (pc' := 253) rfl rfl hr ?_
                      refine W.acmpN at_253 rfl hr (XT.aa_eq_f (Ne.symm hne)) (pc' := 256) rfl ?_
                      refine W.aload at_256 (pc' := 258) rfl rfl rfl ?_
                      refine W.aload at_258 (pc' := 260) rfl rfl hp ?_
                      refine W.acmpN at_260 rfl hp (XT.aa_eq_f (Ne.symm hpe)) (pc' := 263) rfl ?_
                      refine W.iconst (1 : Int32) at_263 (pc' := 264) rfl rfl ?_
                      refine W.goto at_264 (pc' := 268) (by decide) rfl ?_
                      refine W.istore #[.val (.int fl), .val (.int z1), .val (.int z2), .val (.int z3), .val (.int z4), .val (.int z5), .val (.ref a), .val nv, .val pv, .val (.int (1 : Int32)), .val (.ref dt), .val (.ref dt)] at_268 (pc' := 270) rfl rfl ?_
                      refine W.goto at_270 (pc' := 290) (by decide) rfl ?_
                      refine W.iload at_290 (pc' := 292) rfl rfl ?_
                      exact W.retN (t := .boolean) 1 at_292 rfl (by simp) rfl (by decide) (by decide) rfl
                    · refine W.ifN at_180 (XT.i0_eq_f h5) (pc' := 183) rfl ?_
                      refine W.aload at_183 (pc' := 185) rfl rfl rfl ?_
                      refine W.pulls [(nb, (own_Buf Z (.ref kp) (.ref f1) (.int n))), (kp, (RA Z "java/lang/Object" vs)), (a, (own_Act Z (.ref nb) (.ref pb) (.ref dt) (.int (1 : Int32)))), (dt, (own_P Z ))] [2, 2] rfl ?_
                      refine W.callV 2 rfl (m_addName l Z n0 a0 hw [(dt, own_P Z)] a nb pb dt kp f1 1 hf1 n vs k H b e9 hA) at_185 (wd hw 67 rfl) (wd hw 68 rfl) (wd hw 70 rfl) (wd hw 69 rfl) (wd hw 2 rfl) (wd hw 71 rfl) rfl (by decide) pd5 rfl rfl (Nat.le_of_ble_eq_true rfl) (Nat.le_of_ble_eq_true rfl) (Nat.le_of_ble_eq_true rfl) (Nat.le_of_ble_eq_true rfl) rfl (pc' := 188) rfl ?_
                      rintro v9 s9 ⟨q3, rfl, rfl⟩
                      show W _ _ _ _ _ _ 17 330 [(q3, (own_P Z )), (nb, (own_Buf Z (.ref kp) (.ref f1) (.int (n + 1)))), (kp, (RA Z "java/lang/Object" (vs.set k (.ref q3)))), (a, (own_Act Z (.ref nb) (.ref pb) (.ref dt) (.int (1 : Int32)))), (dt, (own_P Z ))] 188 #[.val (.int fl), .val (.int z1), .val (.int z2), .val (.int z3), .val (.int z4), .val (.int z5), .val (.ref a), .val nv, .val pv, .val (.int (1 : Int32)), .val (.ref dt), .unset] [(.ref q3)]
                      refine W.ne 0 4 rfl rfl (by decide) (fun hne3 => ?_)
                      refine W.astore #[.val (.int fl), .val (.int z1), .val (.int z2), .val (.int z3), .val (.int z4), .val (.int z5), .val (.ref a), .val nv, .val pv, .val (.int (1 : Int32)), .val (.ref dt), .val (.ref q3)] at_188 (pc' := 190) rfl rfl rfl ?_
                      refine W.iload at_190 (pc' := 192) rfl rfl ?_
                      refine W.ifN at_192 (by decide) (pc' := 195) rfl ?_
                      refine W.aload at_195 (pc' := 197) rfl rfl rfl ?_
                      refine W.aload at_197 (pc' := 199) rfl rfl rfl ?_
                      refine W.acmpN at_199 rfl rfl (XT.aa_eq_f (fun h => hne3 (by cases h; rfl))) (pc' := 202) rfl ?_
                      refine W.iconst (1 : Int32) at_202 (pc' := 203) rfl rfl ?_
                      refine W.goto at_203 (pc' := 207) (by decide) rfl ?_
                      refine W.istore #[.val (.int fl), .val (.int z1), .val (.int z2), .val (.int z3), .val (.int z4), .val (.int z5), .val (.ref a), .val nv, .val pv, .val (.int (1 : Int32)), .val (.ref dt), .val (.ref q3)] at_207 (pc' := 209) rfl rfl ?_
                      refine W.aload at_209 (pc' := 211) rfl rfl rfl ?_
                      refine W.pulls [(a, (own_Act Z (.ref nb) (.ref pb) (.ref dt) (.int (1 : Int32)))), (q3, (own_P Z )), (nb, (own_Buf Z (.ref kp) (.ref f1) (.int (n + 1)))), (kp, (RA Z "java/lang/Object" (vs.set k (.ref q3)))), (dt, (own_P Z ))] [3] rfl ?_
                      refine W.callV 0 rfl (mDate1 l Z n0 a0 hw [(q3, (own_P Z )), (nb, (own_Buf Z (.ref kp) (.ref f1) (.int (n + 1)))), (kp, (RA Z "java/lang/Object" (vs.set k (.ref q3)))), (dt, (own_P Z ))] a nb pb dt) at_211 (wd hw 60 rfl) (wd hw 61 rfl) (wd hw 63 rfl) (wd hw 62 rfl) (wd hw 2 rfl) (wd hw 64 rfl) rfl (by decide) pd5 rfl rfl (Nat.le_of_ble_eq_true rfl) (Nat.le_of_ble_eq_true rfl) (Nat.le_of_ble_eq_true rfl) (Nat.le_of_ble_eq_true rfl) rfl (pc' := 214) rfl ?_
                      intro v9 s9 q9
                      rw [q9.1, q9.2]
                      clear q9 v9 s9
                      show W _ _ _ _ _ _ 17 330 [(a, (own_Act Z (.ref nb) (.ref pb) (.ref dt) (.int (1 : Int32)))), (q3, (own_P Z )), (nb, (own_Buf Z (.ref kp) (.ref f1) (.int (n + 1)))), (kp, (RA Z "java/lang/Object" (vs.set k (.ref q3)))), (dt, (own_P Z ))] 214 #[.val (.int fl), .val (.int z1), .val (.int z2), .val (.int z3), .val (.int z4), .val (.int z5), .val (.ref a), .val nv, .val pv, .val (.int (1 : Int32)), .val (.ref dt), .val (.ref q3)] [(.ref dt)]
                      refine W.astore #[.val (.int fl), .val (.int z1), .val (.int z2), .val (.int z3), .val (.int z4), .val (.int z5), .val (.ref a), .val nv, .val pv, .val (.int (1 : Int32)), .val (.ref dt), .val (.ref dt)] at_214 (pc' := 216) rfl rfl rfl ?_
                      refine W.iloadN at_216 (pc' := 217) rfl rfl ?_
                      refine W.ifN at_217 (XT.i0_eq_f h3) (pc' := 220) rfl ?_
                      refine W.iload at_220 (pc' := 222) rfl rfl ?_
                      refine W.ifN at_222 (by decide) (pc' := 225) rfl ?_
                      refine W.aload at_225 (pc' := 227) rfl rfl rfl ?_
                      refine W.nullN at_227  (pc' := 230) rfl ?_
                      refine W.aload at_230 (pc' := 232) rfl rfl rfl ?_
                      refine W.aload at_232 (pc' := 234) rfl rfl rfl ?_
                      refine W.acmpN at_234 rfl rfl (XT.aa_ne_f rfl) (pc' := 237) rfl ?_
                      refine W.iconst (1 : Int32) at_237 (pc' := 238) rfl rfl ?_
                      refine W.goto at_238 (pc' := 242) (by decide) rfl ?_
                      refine W.istore #[.val (.int fl), .val (.int z1), .val (.int z2), .val (.int z3), .val (.int z4), .val (.int z5), .val (.ref a), .val nv, .val pv, .val (.int (1 : Int32)), .val (.ref dt), .val (.ref dt)] at_242 (pc' := 244) rfl rfl ?_
                      refine W.iload at_244 (pc' := 246) rfl rfl ?_
                      refine W.ifN at_246 (by decide) (pc' := 249) rfl ?_
                      refine W.aload at_249 (pc' := 251) rfl rfl rfl ?_
                      refine W.aload at_251 (pc' := 253) rfl rfl hr ?_
                      refine W.acmpN at_253 rfl hr (XT.aa_eq_f (Ne.symm hne)) (pc' := 256) rfl ?_
                      refine W.aload at_256 (pc' := 258) rfl rfl rfl ?_
                      refine W.aload at_258 (pc' := 260) rfl rfl hp ?_
                      refine W.acmpN at_260 rfl hp (XT.aa_eq_f (Ne.symm hpe)) (pc' := 263) rfl ?_
                      refine W.iconst (1 : Int32) at_263 (pc' := 264) rfl rfl ?_
                      refine W.goto at_264 (pc' := 268) (by decide) rfl ?_
                      refine W.istore #[.val (.int fl), .val (.int z1), .val (.int z2), .val (.int z3), .val (.int z4), .val (.int z5), .val (.ref a), .val nv, .val pv, .val (.int (1 : Int32)), .val (.ref dt), .val (.ref dt)] at_268 (pc' := 270) rfl rfl ?_
                      refine W.goto at_270 (pc' := 290) (by decide) rfl ?_
                      refine W.iload at_290 (pc' := 292) rfl rfl ?_
                      exact W.retN (t := .boolean) 1 at_292 rfl (by simp) rfl (by decide) (by decide) rfl
                  · refine W.ifN at_149 (XT.i0_eq_f h4) (pc' := 152) rfl ?_
                    refine W.aload at_152 (pc' := 154) rfl rfl rfl ?_
                    refine W.callV 0 rfl (mAddDate l Z n0 a0 hw [(nb, (own_Buf Z (.ref kp) (.ref f1) (.int n))), (kp, (RA Z "java/lang/Object" vs)), (dt, (own_P Z ))] a nb pb dt 1) at_154 (wd hw 97 rfl) (wd hw 98 rfl) (wd hw 100 rfl) (wd hw 99 rfl) (wd hw 2 rfl) (wd hw 101 rfl) rfl (by decide) pd5 rfl rfl (Nat.le_of_ble_eq_true rfl) (Nat.le_of_ble_eq_true rfl) (Nat.le_of_ble_eq_true rfl) (Nat.le_of_ble_eq_true rfl) rfl (pc' := 157) rfl ?_
                    intro v9 s9 q9
                    rw [q9.1, q9.2]
                    clear q9 v9 s9
                    show W _ _ _ _ _ _ 14 253 [(a, (own_Act Z (.ref nb) (.ref pb) (.ref dt) (.int (1 : Int32)))), (nb, (own_Buf Z (.ref kp) (.ref f1) (.int n))), (kp, (RA Z "java/lang/Object" vs)), (dt, (own_P Z ))] 157 #[.val (.int fl), .val (.int z1), .val (.int z2), .val (.int z3), .val (.int z4), .val (.int z5), .val (.ref a), .val nv, .val pv, .val (.int (1 : Int32)), .val (.ref dt), .unset] [(.ref dt)]
                    refine W.astore #[.val (.int fl), .val (.int z1), .val (.int z2), .val (.int z3), .val (.int z4), .val (.int z5), .val (.ref a), .val nv, .val pv, .val (.int (1 : Int32)), .val (.ref dt), .val (.ref dt)] at_157 (pc' := 159) rfl rfl rfl ?_
                    refine W.iload at_159 (pc' := 161) rfl rfl ?_
                    refine W.ifN at_161 (by decide) (pc' := 164) rfl ?_
                    refine W.aload at_164 (pc' := 166) rfl rfl rfl ?_
                    refine W.aload at_166 (pc' := 168) rfl rfl rfl ?_
                    refine W.acmpN at_168 rfl rfl (XT.aa_ne_f rfl) (pc' := 171) rfl ?_
                    refine W.iconst (1 : Int32) at_171 (pc' := 172) rfl rfl ?_
                    refine W.goto at_172 (pc' := 176) (by decide) rfl ?_
                    refine W.istore #[.val (.int fl), .val (.int z1), .val (.int z2), .val (.int z3), .val (.int z4), .val (.int z5), .val (.ref a), .val nv, .val pv, .val (.int (1 : Int32)), .val (.ref dt), .val (.ref dt)] at_176 (pc' := 178) rfl rfl ?_
                    refine W.iload at_178 (pc' := 180) rfl rfl ?_
                    by_cases h5 : z5 = 0
                    · refine W.ifY at_180 (XT.i0_eq_t h5) (by decide) (pc' := 209) rfl ?_
                      refine W.aload at_209 (pc' := 211) rfl rfl rfl ?_
                      refine W.callV 0 rfl (mDate1 l Z n0 a0 hw [(nb, (own_Buf Z (.ref kp) (.ref f1) (.int n))), (kp, (RA Z "java/lang/Object" vs)), (dt, (own_P Z ))] a nb pb dt) at_211 (wd hw 60 rfl) (wd hw 61 rfl) (wd hw 63 rfl) (wd hw 62 rfl) (wd hw 2 rfl) (wd hw 64 rfl) rfl (by decide) pd5 rfl rfl (Nat.le_of_ble_eq_true rfl) (Nat.le_of_ble_eq_true rfl) (Nat.le_of_ble_eq_true rfl) (Nat.le_of_ble_eq_true rfl) rfl (pc' := 214) rfl ?_
                      intro v9 s9 q9
                      rw [q9.1, q9.2]
                      clear q9 v9 s9
                      show W _ _ _ _ _ _ 14 253 [(a, (own_Act Z (.ref nb) (.ref pb) (.ref dt) (.int (1 : Int32)))), (nb, (own_Buf Z (.ref kp) (.ref f1) (.int n))), (kp, (RA Z "java/lang/Object" vs)), (dt, (own_P Z ))] 214 #[.val (.int fl), .val (.int z1), .val (.int z2), .val (.int z3), .val (.int z4), .val (.int z5), .val (.ref a), .val nv, .val pv, .val (.int (1 : Int32)), .val (.ref dt), .val (.ref dt)] [(.ref dt)]
                      refine W.astore #[.val (.int fl), .val (.int z1), .val (.int z2), .val (.int z3), .val (.int z4), .val (.int z5), .val (.ref a), .val nv, .val pv, .val (.int (1 : Int32)), .val (.ref dt), .val (.ref dt)] at_214 (pc' := 216) rfl rfl rfl ?_
                      refine W.iloadN at_216 (pc' := 217) rfl rfl ?_
                      refine W.ifN at_217 (XT.i0_eq_f h3) (pc' := 220) rfl ?_
                      refine W.iload at_220 (pc' := 222) rfl rfl ?_
                      refine W.ifN at_222 (by decide) (pc' := 225) rfl ?_
                      refine W.aload at_225 (pc' := 227) rfl rfl rfl ?_
                      refine W.nullN at_227  (pc' := 230) rfl ?_
                      refine W.aload at_230 (pc' := 232) rfl rfl rfl ?_
                      refine W.aload at_232 (pc' := 234) rfl rfl rfl ?_
                      refine W.acmpN at_234 rfl rfl (XT.aa_ne_f rfl) (pc' := 237) rfl ?_
                      refine W.iconst (1 : Int32) at_237 (pc' := 238) rfl rfl ?_
                      refine W.goto at_238 (pc' := 242) (by decide) rfl ?_
                      refine W.istore #[.val (.int fl), .val (.int z1), .val (.int z2), .val (.int z3), .val (.int z4), .val (.int z5), .val (.ref a), .val nv, .val pv, .val (.int (1 : Int32)), .val (.ref dt), .val (.ref dt)] at_242 (pc' := 244) rfl rfl ?_
                      refine W.iload at_244 (pc' := 246) rfl rfl ?_
                      refine W.ifN at_246 (by decide) (pc' := 249) rfl ?_
                      refine W.aload at_249 (pc' := 251) rfl rfl rfl ?_
                      refine W.aload at_251 (pc' := 253) rfl rfl hr ?_
                      refine W.acmpN at_253 rfl hr (XT.aa_eq_f (Ne.symm hne)) (pc' := 256) rfl ?_
                      refine W.aload at_256 (pc' := 258) rfl rfl rfl ?_
                      refine W.aload at_258 (pc' := 260) rfl rfl hp ?_
                      refine W.acmpN at_260 rfl hp (XT.aa_eq_f (Ne.symm hpe)) (pc' := 263) rfl ?_
                      refine W.iconst (1 : Int32) at_263 (pc' := 264) rfl rfl ?_
                      refine W.goto at_264 (pc' := 268) (by decide) rfl ?_
                      refine W.istore #[.val (.int fl), .val (.int z1), .val (.int z2), .val (.int z3), .val (.int z4), .val (.int z5), .val (.ref a), .val nv, .val pv, .val (.int (1 : Int32)), .val (.ref dt), .val (.ref dt)] at_268 (pc' := 270) rfl rfl ?_
                      refine W.goto at_270 (pc' := 290) (by decide) rfl ?_
                      refine W.iload at_290 (pc' := 292) rfl rfl ?_
                      exact W.retN (t := .boolean) 1 at_292 rfl (by simp) rfl (by decide) (by decide) rfl
                    · refine W.ifN at_180 (XT.i0_eq_f h5) (pc' := 183) rfl ?_
                      refine W.aload at_183 (pc' := 185) rfl rfl rfl ?_
                      refine W.pulls [(nb, (own_Buf Z (.ref kp) (.ref f1) (.int n))), (kp, (RA Z "java/lang/Object" vs)), (a, (own_Act Z (.ref nb) (.ref pb) (.ref dt) (.int (1 : Int32)))), (dt, (own_P Z ))] [2, 2] rfl ?_
                      refine W.callV 2 rfl (m_addName l Z n0 a0 hw [(dt, own_P Z)] a nb pb dt kp f1 1 hf1 n vs k H b e9 hA) at_185 (wd hw 67 rfl) (wd hw 68 rfl) (wd hw 70 rfl) (wd hw 69 rfl) (wd hw 2 rfl) (wd hw 71 rfl) rfl (by decide) pd5 rfl rfl (Nat.le_of_ble_eq_true rfl) (Nat.le_of_ble_eq_true rfl) (Nat.le_of_ble_eq_true rfl) (Nat.le_of_ble_eq_true rfl) rfl (pc' := 188) rfl ?_
                      rintro v9 s9 ⟨q3, rfl, rfl⟩
                      show W _ _ _ _ _ _ 17 330 [(q3, (own_P Z )), (nb, (own_Buf Z (.ref kp) (.ref f1) (.int (n + 1)))), (kp, (RA Z "java/lang/Object" (vs.set k (.ref q3)))), (a, (own_Act Z (.ref nb) (.ref pb) (.ref dt) (.int (1 : Int32)))), (dt, (own_P Z ))] 188 #[.val (.int fl), .val (.int z1), .val (.int z2), .val (.int z3), .val (.int z4), .val (.int z5), .val (.ref a), .val nv, .val pv, .val (.int (1 : Int32)), .val (.ref dt), .val (.ref dt)] [(.ref q3)]
                      refine W.ne 0 4 rfl rfl (by decide) (fun hne3 => ?_)
                      refine W.astore #[.val (.int fl), .val (.int z1), .val (.int z2), .val (.int z3), .val (.int z4), .val (.int z5), .val (.ref a), .val nv, .val pv, .val (.int (1 : Int32)), .val (.ref dt), .val (.ref q3)] at_188 (pc' := 190) rfl rfl rfl ?_
                      refine W.iload at_190 (pc' := 192) rfl rfl ?_
                      refine W.ifN at_192 (by decide) (pc' := 195) rfl ?_
                      refine W.aload at_195 (pc' := 197) rfl rfl rfl ?_
                      refine W.aload at_197 (pc' := 199) rfl rfl rfl ?_
                      refine W.acmpN at_199 rfl rfl (XT.aa_eq_f (fun h => hne3 (by cases h; rfl))) (pc' := 202) rfl ?_
                      refine W.iconst (1 : Int32) at_202 (pc' := 203) rfl rfl ?_
                      refine W.goto at_203 (pc' := 207) (by decide) rfl ?_
                      refine W.istore #[.val (.int fl), .val (.int z1), .val (.int z2), .val (.int z3), .val (.int z4), .val (.int z5), .val (.ref a), .val nv, .val pv, .val (.int (1 : Int32)), .val (.ref dt), .val (.ref q3)] at_207 (pc' := 209) rfl rfl ?_
                      refine W.aload at_209 (pc' := 211) rfl rfl rfl ?_
                      refine W.pulls [(a, (own_Act Z (.ref nb) (.ref pb) (.ref dt) (.int (1 : Int32)))), (q3, (own_P Z )), (nb, (own_Buf Z (.ref kp) (.ref f1) (.int (n + 1)))), (kp, (RA Z "java/lang/Object" (vs.set k (.ref q3)))), (dt, (own_P Z ))] [3] rfl ?_
                      refine W.callV 0 rfl (mDate1 l Z n0 a0 hw [(q3, (own_P Z )), (nb, (own_Buf Z (.ref kp) (.ref f1) (.int (n + 1)))), (kp, (RA Z "java/lang/Object" (vs.set k (.ref q3)))), (dt, (own_P Z ))] a nb pb dt) at_211 (wd hw 60 rfl) (wd hw 61 rfl) (wd hw 63 rfl) (wd hw 62 rfl) (wd hw 2 rfl) (wd hw 64 rfl) rfl (by decide) pd5 rfl rfl (Nat.le_of_ble_eq_true rfl) (Nat.le_of_ble_eq_true rfl) (Nat.le_of_ble_eq_true rfl) (Nat.le_of_ble_eq_true rfl) rfl (pc' := 214) rfl ?_
                      intro v9 s9 q9
                      rw [q9.1, q9.2]
                      clear q9 v9 s9
                      show W _ _ _ _ _ _ 17 330 [(a, (own_Act Z (.ref nb) (.ref pb) (.ref dt) (.int (1 : Int32)))), (q3, (own_P Z )), (nb, (own_Buf Z (.ref kp) (.ref f1) (.int (n + 1)))), (kp, (RA Z "java/lang/Object" (vs.set k (.ref q3)))), (dt, (own_P Z ))] 214 #[.val (.int fl), .val (.int z1), .val (.int z2), .val (.int z3), .val (.int z4), .val (.int z5), .val (.ref a), .val nv, .val pv, .val (.int (1 : Int32)), .val (.ref dt), .val (.ref q3)] [(.ref dt)]
                      refine W.astore #[.val (.int fl), .val (.int z1), .val (.int z2), .val (.int z3), .val (.int z4), .val (.int z5), .val (.ref a), .val nv, .val pv, .val (.int (1 : Int32)), .val (.ref dt), .val (.ref dt)] at_214 (pc' := 216) rfl rfl rfl ?_
                      refine W.iloadN at_216 (pc' := 217) rfl rfl ?_
                      refine W.ifN at_217 (XT.i0_eq_f h3) (pc' := 220) rfl ?_
                      refine W.iload at_220 (pc' := 222) rfl rfl ?_
                      refine W.ifN at_222 (by decide) (pc' := 225) rfl ?_
                      refine W.aload at_225 (pc' := 227) rfl rfl rfl ?_
                      refine W.nullN at_227  (pc' := 230) rfl ?_
                      refine W.aload at_230 (pc' := 232) rfl rfl rfl ?_
                      refine W.aload at_232 (pc' := 234) rfl rfl rfl ?_
                      refine W.acmpN at_234 rfl rfl (XT.aa_ne_f rfl) (pc' := 237) rfl ?_
                      refine W.iconst (1 : Int32) at_237 (pc' := 238) rfl rfl ?_
                      refine W.goto at_238 (pc' := 242) (by decide) rfl ?_
                      refine W.istore #[.val (.int fl), .val (.int z1), .val (.int z2), .val (.int z3), .val (.int z4), .val (.int z5), .val (.ref a), .val nv, .val pv, .val (.int (1 : Int32)), .val (.ref dt), .val (.ref dt)] at_242 (pc' := 244) rfl rfl ?_
                      refine W.iload at_244 (pc' := 246) rfl rfl ?_
                      refine W.ifN at_246 (by decide) (pc' := 249) rfl ?_
                      refine W.aload at_249 (pc' := 251) rfl rfl rfl ?_
                      refine W.aload at_251 (pc' := 253) rfl rfl hr ?_
                      refine W.acmpN at_253 rfl hr (XT.aa_eq_f (Ne.symm hne)) (pc' := 256) rfl ?_
                      refine W.aload at_256 (pc' := 258) rfl rfl rfl ?_
                      refine W.aload at_258 (pc' := 260) rfl rfl hp ?_
                      refine W.acmpN at_260 rfl hp (XT.aa_eq_f (Ne.symm hpe)) (pc' := 263) rfl ?_
                      refine W.iconst (1 : Int32) at_263 (pc' := 264) rfl rfl ?_
                      refine W.goto at_264 (pc' := 268) (by decide) rfl ?_
                      refine W.istore #[.val (.int fl), .val (.int z1), .val (.int z2), .val (.int z3), .val (.int z4), .val (.int z5), .val (.ref a), .val nv, .val pv, .val (.int (1 : Int32)), .val (.ref dt), .val (.ref dt)] at_268 (pc' := 270) rfl rfl ?_
                      refine W.goto at_270 (pc' := 290) (by decide) rfl ?_
                      refine W.iload at_290 (pc' := 292) rfl rfl ?_
                      exact W.retN (t := .boolean) 1 at_292 rfl (by simp) rfl (by decide) (by decide) rfl
              by_cases h2 : z2 = 0
              · refine W.ifY at_91 (XT.i0_eq_t h2) (by decide) (pc' := 101) rfl ?_
                refine W.more 14 253 (Nat.le_of_ble_eq_true rfl) (Nat.le_of_ble_eq_true rfl) ?_
                refine W.drop [(a, (own_Act Z (.ref nb) (.ref pb) (.ref dt) (.int (0 : Int32)))), (nb, (own_Buf Z (.ref kp) (.ref f1) (.int n))), (kp, (RA Z "java/lang/Object" vs)), (kq, (RA Z "java/lang/Object" (List.replicate 4 .null))), (dt, (own_P Z ))] 3 rfl ?_
                refine W.drop [(a, (own_Act Z (.ref nb) (.ref pb) (.ref dt) (.int (0 : Int32)))), (nb, (own_Buf Z (.ref kp) (.ref f1) (.int n))), (kp, (RA Z "java/lang/Object" vs)), (dt, (own_P Z ))] 3 rfl ?_
                exact j101 .null rfl (fun h => by cases h)
              · refine W.ifN at_91 (XT.i0_eq_f h2) (pc' := 94) rfl ?_
                refine W.aload at_94 (pc' := 96) rfl rfl rfl ?_
                refine W.pulls [(pb, (own_Buf Z (.ref kq) (.ref f2) (.int (0 : Int32)))), (kq, (RA Z "java/lang/Object" (List.replicate 4 .null))), (a, (own_Act Z (.ref nb) (.ref pb) (.ref dt) (.int (0 : Int32)))), (nb, (own_Buf Z (.ref kp) (.ref f1) (.int n))), (kp, (RA Z "java/lang/Object" vs)), (dt, (own_P Z ))] [4, 4] rfl ?_
                refine W.callV 2 rfl (m_addPlace l Z n0 a0 hw [(nb, (own_Buf Z (.ref kp) (.ref f1) (.int n))), (kp, (RA Z "java/lang/Object" vs)), (dt, (own_P Z ))] a pb nb dt kq f2 0 hf2 0 _ 0 ⟨by decide, rfl, rfl, by decide, rfl, by decide, by decide⟩ b e9 hA) at_96 (wd hw 92 rfl) (wd hw 93 rfl) (wd hw 95 rfl) (wd hw 94 rfl) (wd hw 2 rfl) (wd hw 96 rfl) rfl (by decide) pd5 rfl rfl (Nat.le_of_ble_eq_true rfl) (Nat.le_of_ble_eq_true rfl) (Nat.le_of_ble_eq_true rfl) (Nat.le_of_ble_eq_true rfl) rfl (pc' := 99) rfl ?_
                rintro v9 s9 ⟨q2, rfl, rfl⟩
                show W _ _ _ _ _ _ 14 253 [(q2, (own_P Z )), (pb, (own_Buf Z (.ref kq) (.ref f2) (.int ((0 : Int32) + 1)))), (kq, (RA Z "java/lang/Object" ((List.replicate 4 Value.null).set 0 (.ref q2)))), (a, (own_Act Z (.ref nb) (.ref pb) (.ref dt) (.int (0 : Int32)))), (nb, (own_Buf Z (.ref kp) (.ref f1) (.int n))), (kp, (RA Z "java/lang/Object" vs)), (dt, (own_P Z ))] 99 #[.val (.int fl), .val (.int z1), .val (.int z2), .val (.int z3), .val (.int z4), .val (.int z5), .val (.ref a), .val nv, .val .null, .unset, .unset, .unset] [(.ref q2)]
                refine W.astore #[.val (.int fl), .val (.int z1), .val (.int z2), .val (.int z3), .val (.int z4), .val (.int z5), .val (.ref a), .val nv, .val (.ref q2), .unset, .unset, .unset] at_99 (pc' := 101) rfl rfl rfl ?_
                refine W.drop [(q2, (own_P Z )), (kq, (RA Z "java/lang/Object" ((List.replicate 4 Value.null).set 0 (.ref q2)))), (a, (own_Act Z (.ref nb) (.ref pb) (.ref dt) (.int (0 : Int32)))), (nb, (own_Buf Z (.ref kp) (.ref f1) (.int n))), (kp, (RA Z "java/lang/Object" vs)), (dt, (own_P Z ))] 1 rfl ?_
                refine W.drop [(q2, (own_P Z )), (a, (own_Act Z (.ref nb) (.ref pb) (.ref dt) (.int (0 : Int32)))), (nb, (own_Buf Z (.ref kp) (.ref f1) (.int n))), (kp, (RA Z "java/lang/Object" vs)), (dt, (own_P Z ))] 1 rfl ?_
                refine W.pulls [(a, (own_Act Z (.ref nb) (.ref pb) (.ref dt) (.int (0 : Int32)))), (nb, (own_Buf Z (.ref kp) (.ref f1) (.int n))), (kp, (RA Z "java/lang/Object" vs)), (dt, (own_P Z )), (q2, (own_P Z ))] [4, 4, 4, 4] rfl ?_
                refine W.ne 4 3 rfl rfl (by decide) (fun hne2 => ?_)
                refine W.drop [(a, (own_Act Z (.ref nb) (.ref pb) (.ref dt) (.int (0 : Int32)))), (nb, (own_Buf Z (.ref kp) (.ref f1) (.int n))), (kp, (RA Z "java/lang/Object" vs)), (dt, (own_P Z ))] 4 rfl ?_
                exact j101 (.ref q2) rfl (fun h => hne2 (by cases h; rfl))
            by_cases h1 : z1 = 0
            · refine W.ifY at_80 (XT.i0_eq_t h1) (by decide) (pc' := 90) rfl ?_
              refine W.more 11 176 (Nat.le_of_ble_eq_true rfl) (Nat.le_of_ble_eq_true rfl) ?_
              exact j90 .null rfl (fun h => by cases h) 0 _ 0 ⟨by decide, rfl, rfl, by decide, rfl, by decide, by decide⟩
            · refine W.ifN at_80 (XT.i0_eq_f h1) (pc' := 83) rfl ?_
              refine W.aload at_83 (pc' := 85) rfl rfl rfl ?_
              refine W.pulls [(nb, (own_Buf Z (.ref kp) (.ref f1) (.int (0 : Int32)))), (kp, (RA Z "java/lang/Object" (List.replicate 4 .null))), (a, (own_Act Z (.ref nb) (.ref pb) (.ref dt) (.int (0 : Int32)))), (pb, (own_Buf Z (.ref kq) (.ref f2) (.int (0 : Int32)))), (kq, (RA Z "java/lang/Object" (List.replicate 4 .null))), (dt, (own_P Z ))] [2, 2] rfl ?_
              refine W.callV 2 rfl (m_addName l Z n0 a0 hw [(pb, (own_Buf Z (.ref kq) (.ref f2) (.int (0 : Int32)))), (kq, (RA Z "java/lang/Object" (List.replicate 4 .null))), (dt, (own_P Z ))] a nb pb dt kp f1 0 hf1 0 _ 0 ⟨by decide, rfl, rfl, by decide, rfl, by decide, by decide⟩ b e9 hA) at_85 (wd hw 67 rfl) (wd hw 68 rfl) (wd hw 70 rfl) (wd hw 69 rfl) (wd hw 2 rfl) (wd hw 71 rfl) rfl (by decide) pd5 rfl rfl (Nat.le_of_ble_eq_true rfl) (Nat.le_of_ble_eq_true rfl) (Nat.le_of_ble_eq_true rfl) (Nat.le_of_ble_eq_true rfl) rfl (pc' := 88) rfl ?_
              rintro v9 s9 ⟨q1, rfl, rfl⟩
              show W _ _ _ _ _ _ 11 176 [(q1, (own_P Z )), (nb, (own_Buf Z (.ref kp) (.ref f1) (.int ((0 : Int32) + 1)))), (kp, (RA Z "java/lang/Object" ((List.replicate 4 Value.null).set 0 (.ref q1)))), (a, (own_Act Z (.ref nb) (.ref pb) (.ref dt) (.int (0 : Int32)))), (pb, (own_Buf Z (.ref kq) (.ref f2) (.int (0 : Int32)))), (kq, (RA Z "java/lang/Object" (List.replicate 4 .null))), (dt, (own_P Z ))] 88 #[.val (.int fl), .val (.int z1), .val (.int z2), .val (.int z3), .val (.int z4), .val (.int z5), .val (.ref a), .val .null, .val .null, .unset, .unset, .unset] [(.ref q1)]
              refine W.astore #[.val (.int fl), .val (.int z1), .val (.int z2), .val (.int z3), .val (.int z4), .val (.int z5), .val (.ref a), .val (.ref q1), .val .null, .unset, .unset, .unset] at_88 (pc' := 90) rfl rfl rfl ?_
              refine W.pulls [(a, (own_Act Z (.ref nb) (.ref pb) (.ref dt) (.int (0 : Int32)))), (nb, (own_Buf Z (.ref kp) (.ref f1) (.int ((0 : Int32) + 1)))), (kp, (RA Z "java/lang/Object" ((List.replicate 4 Value.null).set 0 (.ref q1)))), (pb, (own_Buf Z (.ref kq) (.ref f2) (.int (0 : Int32)))), (kq, (RA Z "java/lang/Object" (List.replicate 4 .null))), (dt, (own_P Z )), (q1, (own_P Z ))] [6, 6, 6, 5, 5, 6] rfl ?_
              refine W.ne 6 5 rfl rfl (by decide) (fun hne => ?_)
              refine W.drop [(a, (own_Act Z (.ref nb) (.ref pb) (.ref dt) (.int (0 : Int32)))), (nb, (own_Buf Z (.ref kp) (.ref f1) (.int ((0 : Int32) + 1)))), (kp, (RA Z "java/lang/Object" ((List.replicate 4 Value.null).set 0 (.ref q1)))), (pb, (own_Buf Z (.ref kq) (.ref f2) (.int (0 : Int32)))), (kq, (RA Z "java/lang/Object" (List.replicate 4 .null))), (dt, (own_P Z ))] 6 rfl ?_
              exact j90 (.ref q1) rfl (fun h => hne (by cases h; rfl)) (0 + 1) _ 1 ⟨by decide, rfl, rfl, by decide, rfl, by decide, by decide⟩
          by_cases h0 : (fl &&& (16 : Int32)) = 0
          · refine W.ifY at_54 (XT.i0_eq_t h0) (by decide) (pc' := 61) rfl ?_
            refine W.iconst (0 : Int32) at_61 (pc' := 62) rfl rfl ?_
            exact j_z5 _ (if_pos h0).symm
          · refine W.ifN at_54 (XT.i0_eq_f h0) (pc' := 57) rfl ?_
            refine W.iconst (1 : Int32) at_57 (pc' := 58) rfl rfl ?_
            refine W.goto at_58 (pc' := 62) (by decide) rfl ?_
            exact j_z5 _ (if_neg h0).symm
        by_cases h0 : (fl &&& (8 : Int32)) = 0
        · refine W.ifY at_40 (XT.i0_eq_t h0) (by decide) (pc' := 47) rfl ?_
          refine W.iconst (0 : Int32) at_47 (pc' := 48) rfl rfl ?_
          exact j_z4 _ (if_pos h0).symm
        · refine W.ifN at_40 (XT.i0_eq_f h0) (pc' := 43) rfl ?_
          refine W.iconst (1 : Int32) at_43 (pc' := 44) rfl rfl ?_
          refine W.goto at_44 (pc' := 48) (by decide) rfl ?_
          exact j_z4 _ (if_neg h0).symm
      by_cases h0 : (fl &&& (4 : Int32)) = 0
      · refine W.ifY at_27 (XT.i0_eq_t h0) (by decide) (pc' := 34) rfl ?_
        refine W.iconst (0 : Int32) at_34 (pc' := 35) rfl rfl ?_
        exact j_z3 _ (if_pos h0).symm
      · refine W.ifN at_27 (XT.i0_eq_f h0) (pc' := 30) rfl ?_
        refine W.iconst (1 : Int32) at_30 (pc' := 31) rfl rfl ?_
        refine W.goto at_31 (pc' := 35) (by decide) rfl ?_
        exact j_z3 _ (if_neg h0).symm
    by_cases h0 : (fl &&& (2 : Int32)) = 0
    · refine W.ifY at_15 (XT.i0_eq_t h0) (by decide) (pc' := 22) rfl ?_
      refine W.iconst (0 : Int32) at_22 (pc' := 23) rfl rfl ?_
      exact j_z2 _ (if_pos h0).symm
    · refine W.ifN at_15 (XT.i0_eq_f h0) (pc' := 18) rfl ?_
      refine W.iconst (1 : Int32) at_18 (pc' := 19) rfl rfl ?_
      refine W.goto at_19 (pc' := 23) (by decide) rfl ?_
      exact j_z2 _ (if_neg h0).symm
  by_cases h0 : (fl &&& (1 : Int32)) = 0
  · refine W.ifY at_3 (XT.i0_eq_t h0) (by decide) (pc' := 10) rfl ?_
    refine W.iconst (0 : Int32) at_10 (pc' := 11) rfl rfl ?_
    exact j_z1 _ (if_pos h0).symm
  · refine W.ifN at_3 (XT.i0_eq_f h0) (pc' := 6) rfl ?_
    refine W.iconst (1 : Int32) at_6 (pc' := 7) rfl rfl ?_
    refine W.goto at_7 (pc' := 11) (by decide) rfl ?_
    exact j_z1 _ (if_neg h0).symm
set_option maxRecDepth 65536 in
set_option maxHeartbeats 40000000 in
theorem comes_1 {Post : Tables → Env → Array Value → State → Outcome → State → Prop} (hpost : ∀ tb e args s v u, (limb_1_1.after args s (.returned v) u = true ∧ limb_1_2.after args s (.returned v) u = true ∧ True) → FrameEnd s (.returned v) u (Jvm.fieldLocs frame_1_writes args s ++ Jvm.arrayLocs frame_1_arrays args s ++ Jvm.staticLocs frame_1_statics s) 48 768 → Post tb e args s (.returned v) u) :
    ArmFor flags0 classFile x code maxLocals ret World_1 tables_1 room_1 Calls_1 rest_1 Pre_1 Post := by
  intro l hfl _ _ p en ha hc hk s m args below hf hA hF happ hP
  obtain ⟨hcalls, hrest, hpre⟩ := hP
  obtain ⟨-, -, -, hnamed, -, -, -, hat⟩ := (Spec.applies_iff hf).mp happ
  obtain ⟨hg, hn⟩ := and_e (Cond.before_iff.mp (show (Jvm.Cond.and given_1 narrow_1).before args s = true from hpre))
  obtain ⟨g0, t0⟩ := and_e hg
  obtain ⟨w0, rfl⟩ : ∃ w0 : Value, args = #[w0] := by
    have hs : args.size = 1 := by simpa [Cond.value, given_1] using g0
    obtain ⟨L⟩ := args
    match L, hs with
    | [w0], _ => exact ⟨w0, rfl⟩
  have hw := fun d (hd : d ∈ tables_1) => atoms_spec (ws := Jvm.Cond.code x code maxLocals ret :: tables_1) hat d (List.mem_cons_of_mem _ hd)
  obtain ⟨fl, e_fl⟩ := is_v t0
  obtain rfl : w0 = (.int fl) := Option.some.inj e_fl
  obtain ⟨u1, u2⟩ := and_e hn
  obtain ⟨u2, u3⟩ := and_e u2
  obtain ⟨b, eb⟩ := exa_v u1
  obtain ⟨e9, ee⟩ := arr_v u2
  obtain ⟨cl, ea⟩ := Arr.start ee u2
  have hA : own_Att s b e9 := by
    refine ⟨Sta.start eb (Or.inr ⟨wd hw 32 rfl, wd hw 38 rfl⟩), Exa.start eb u1, Fld.start ((fld_at eb).symm.trans ee), cl, ea, ?_⟩
    obtain ⟨z1, z2, q1, q2, -, -⟩ := cmp_v (Or.inl u3)
    obtain ⟨a9, c9, w1, w2, w3⟩ := Term.length_spec q1
    have ew := Option.some.inj (ee.symm.trans w1)
    cases ew
    have q2' : z2 = .int 8 := (Option.some.inj q2).symm
    subst w3 q2'
    have hc9 : c9 = cl := by
      have := Arr.fin (Vm.Alike.refl _) ea
      rw [w2] at this
      exact Option.some.inj this
    subst hc9
    have q3 := u3
    simp only [Cond.value, q1, q2] at q3
    simpa using q3
  have hsep : Sep s s.heap.size s.heap [] := ⟨Old.start s, fun _ q => absurd q (List.not_mem_nil), List.nodup_nil⟩
  obtain ⟨n, o, h1, h2, h3, _, L, rfl, ⟨⟨_, rfl, -⟩, N⟩, hq⟩ := m0 l s s.heap.size _ hw fl b e9 hA tables_1 s.heap hsep p en ha hc hk s m _ below hf ((Spec.applies_iff_loose hf).mp happ).1 ⟨rfl, State.WarmedH.refl s, rfl⟩ trivial
  refine ⟨n, _, h1, h2, h3, hpost _ _ _ _ _ _ ⟨Cond.after_iff.mpr rfl, Cond.after_iff.mpr (eq_i res_at (Term.int_eval (1)) rfl), trivial⟩ ⟨hq.1, hq.2.1, (hq.2.2.sift fun y hy => Or.inr (N y hy)).mono (by decide) (by decide)⟩⟩
theorem main_1_1 : Claimed_1_1 := comes_1 fun _ _ _ _ _ _ h hF => ⟨h.1, LamKit.wideOf hF⟩
theorem main_1_2 : Claimed_1_2 := comes_1 fun _ _ _ _ _ _ h hF => ⟨h.2.1, LamKit.wideOf hF⟩
end Jvm.Pilot.@@N@@
namespace Jvm.Pilot.@@N@@
open Jvm Jvm.ClassFile Sem Op Lib Jvm.Free Jvm.Stand Jvm.Pilot.@@N@@.Jvm.D
/-! MADE BY PROGRAM (witnessworld.py) out of the Statement's table words and the real class files: 32 classes; the members and pool entries that the words name. The judged class is class 1, her method 1. -/
namespace start1
open Jvm.ClassFile
def u (s : String) : CpInfo := .utf8 (stringToUtf16 s)
/-- a pool by its gaps: so many unusable entries, then the entry; so many at the end -/
def gap : Nat → List CpInfo → List CpInfo
  | 0, r => r
  | n + 1, r => .unusable :: gap n r
def poolList (es : List (Nat × CpInfo)) (last : Nat) : List CpInfo := es.foldr (fun e r => gap e.1 (e.2 :: r)) (gap last [])
def pool (es : List (Nat × CpInfo)) (last : Nat) : Array CpInfo := ⟨poolList es last⟩
def fileOf (pool : Array CpInfo) (this : Nat) (attrs : Array Attribute := #[]) (ms : Array MethodInfo := #[]) (fl : Nat := 33) (sup : Nat := 0) (ifs : Array Nat := #[]) (fds : Array FieldInfo := #[]) : ClassFile where
  minorVersion := 0
  majorVersion := 65
  constantPool := pool
  accessFlags := fl
  thisClass := this
  superClass := sup
  interfaces := ifs
  fields := fds
  methods := ms
  attributes := attrs
def plain (name : String) (sup : Option ClassId) : Class where
  name := name
  kind := .ordinary
  loader := none
  accessFlags := 33
  super := sup
  interfaces := #[]
  cf := none
  fields := #[]
  methods := #[]
  instanceTypes := #[]
  staticTypes := #[]
  resolved := #[]
  callSites := []
  init := .initialized
  statics := none
  mirror := none

def pool0 : Array CpInfo := pool [(5, u "<init>"), (0, u "()V"), (1, .class_ 10), (1, u "java/lang/Object")] 113

def k0c0 : Code := { maxStack := 0, maxLocals := 1, code := object_method_1_code, exceptionTable := #[], attributes := #[] }
def k0m0 : Method := { name := "<init>", desc := "()V", sig := { parameters := [], returnType := none }, accessFlags := 1, code := some k0c0 }
/-- java/lang/Object -/
def k0 : Class := { plain "java/lang/Object" none with
  accessFlags := 33
  interfaces := #[]
  cf := some (fileOf pool0 8 #[] #[{ accessFlags := 1, nameIndex := 5, descriptorIndex := 6, attributes := #[] }] 33 0 #[] #[])
  fields := #[]
  methods := #[k0m0]
  instanceTypes := #[]
  staticTypes := #[]
  resolved := Array.replicate 124 none
  statics := none }

def pool1 : Array CpInfo := pool [(2, .class_ 4), (0, .nameAndType 5 6), (0, u "java/lang/Object"), (0, u "<init>"), (0, u "()V"), (0, .class_ 8), (0, u "com/example/letterhead/letterhead/LetterBuffer$Action"), (0, .methodref 7 3), (0, .methodref 7 11), (0, .nameAndType 12 13), (0, u "addName"), (0, u "()Lcom/example/letterhead/letterhead/LetterBuffer$Part;"), (0, .methodref 7 15), (0, .nameAndType 16 13), (0, u "addPlace"), (0, .methodref 7 18), (0, .nameAndType 19 13), (0, u "date"), (0, .methodref 7 21), (0, .nameAndType 22 13), (0, u "addDate"), (0, .class_ 24), (0, u "com/example/letterhead/letterhead/ActionDatePinLaw"), (2, u "law"), (0, u "(I)Z")] 10

def k1m0 : Method := { name := "<init>", desc := "()V", sig := { parameters := [], returnType := none }, accessFlags := 2, code := none }
def k1c1 : Code := { maxStack := 2, maxLocals := 12, code := code, exceptionTable := #[], attributes := #[] }
def k1m1 : Method := { name := "law", desc := "(I)Z", sig := { parameters := [.int], returnType := some .boolean }, accessFlags := 9, code := some k1c1 }
/-- com/example/letterhead/letterhead/ActionDatePinLaw -/
def k1 : Class := { plain "com/example/letterhead/letterhead/ActionDatePinLaw" (some 0) with
  accessFlags := 49
  interfaces := #[]
  cf := some (fileOf pool1 23 #[] #[{ accessFlags := 2, nameIndex := 5, descriptorIndex := 6, attributes := #[] }, { accessFlags := 9, nameIndex := 27, descriptorIndex := 28, attributes := #[] }] 49 2 #[] #[])
  fields := #[]
  methods := #[k1m0, k1m1]
  instanceTypes := #[]
  staticTypes := #[]
  resolved := Array.replicate 39 none
  statics := none }

def pool2 : Array CpInfo := pool [(1, .methodref 2 3), (0, .class_ 4), (0, .nameAndType 5 6), (0, u "java/lang/Object"), (0, u "<init>"), (0, u "()V"), (0, .class_ 8), (0, u "com/example/letterhead/letterhead/LetterBuffer$Buffers"), (0, .invokeDynamic 0 10), (0, .nameAndType 11 12), (0, u "get"), (0, u "()Ljava/util/function/Supplier;"), (0, .methodref 7 14), (0, .nameAndType 5 15), (0, u "(Ljava/util/function/Supplier;)V"), (0, .fieldref 17 18), (0, .class_ 19), (0, .nameAndType 20 21), (0, u "com/example/letterhead/letterhead/LetterBuffer$Action"), (0, u "names"), (0, u "Lcom/example/letterhead/letterhead/LetterBuffer$Buffers;"), (0, .fieldref 17 23), (0, .nameAndType 24 21), (0, u "places"), (0, .class_ 26), (0, u "com/example/letterhead/letterhead/LetterBuffer$Part"), (0, .methodref 25 3), (0, .fieldref 17 29), (0, .nameAndType 30 31), (0, u "date"), (0, u "Lcom/example/letterhead/letterhead/LetterBuffer$Part;"), (2, u "depth"), (0, u "I"), (2, u "number"), (2, u "type"), (0, u "Ljava/lang/String;"), (2, u "openPart"), (3, .fieldref 17 50), (0, .nameAndType 51 52), (0, u "dated"), (0, u "Z"), (0, .methodref 7 54), (0, .nameAndType 55 56), (0, u "add"), (0, u "()Ljava/lang/Object;"), (43, u "addName"), (0, u "()Lcom/example/letterhead/letterhead/LetterBuffer$Part;"), (0, u "addPlace"), (0, u "addDate"), (16, .class_ 121), (0, u "com/example/letterhead/letterhead/LetterBuffer"), (1, .methodType 56), (0, .methodHandle 8 27), (0, .methodType 101), (0, .methodHandle 6 127), (0, .methodref 128 129), (0, .class_ 130), (0, .nameAndType 131 132), (0, u "java/lang/invoke/LambdaMetafactory"), (0, u "metafactory"), (0, u "(Ljava/lang/invoke/MethodHandles$Lookup;Ljava/lang/String;Ljava/lang/invoke/MethodType;Ljava/lang/invoke/MethodType;Ljava/lang/invoke/MethodHandle;Ljava/lang/invoke/MethodType;)Ljava/lang/invoke/CallSite;")] 9

def k2c0 : Code := { maxStack := 4, maxLocals := 1, code := prog_37_method_1_code, exceptionTable := #[], attributes := #[] }
def k2m0 : Method := { name := "<init>", desc := "()V", sig := { parameters := [], returnType := none }, accessFlags := 0, code := some k2c0 }
def k2c1 : Code := { maxStack := 1, maxLocals := 1, code := prog_37_method_3_code, exceptionTable := #[], attributes := #[] }
def k2m1 : Method := { name := "addName", desc := "()Lcom/example/letterhead/letterhead/LetterBuffer$Part;", sig := { parameters := [], returnType := some (.object "com/example/letterhead/letterhead/LetterBuffer$Part") }, accessFlags := 0, code := some k2c1 }
def k2c2 : Code := { maxStack := 1, maxLocals := 1, code := prog_37_method_4_code, exceptionTable := #[], attributes := #[] }
def k2m2 : Method := { name := "addPlace", desc := "()Lcom/example/letterhead/letterhead/LetterBuffer$Part;", sig := { parameters := [], returnType := some (.object "com/example/letterhead/letterhead/LetterBuffer$Part") }, accessFlags := 0, code := some k2c2 }
def k2c3 : Code := { maxStack := 2, maxLocals := 1, code := prog_37_method_5_code, exceptionTable := #[], attributes := #[] }
def k2m3 : Method := { name := "addDate", desc := "()Lcom/example/letterhead/letterhead/LetterBuffer$Part;", sig := { parameters := [], returnType := some (.object "com/example/letterhead/letterhead/LetterBuffer$Part") }, accessFlags := 0, code := some k2c3 }
def k2c4 : Code := { maxStack := 1, maxLocals := 1, code := prog_37_method_11_code, exceptionTable := #[], attributes := #[] }
def k2m4 : Method := { name := "date", desc := "()Lcom/example/letterhead/letterhead/LetterBuffer$Part;", sig := { parameters := [], returnType := some (.object "com/example/letterhead/letterhead/LetterBuffer$Part") }, accessFlags := 0, code := some k2c4 }
/-- com/example/letterhead/letterhead/LetterBuffer$Action -/
def k2 : Class := { plain "com/example/letterhead/letterhead/LetterBuffer$Action" (some 0) with
  accessFlags := 48
  interfaces := #[]
  cf := some (fileOf pool2 17 #[.nestHost 120, .bootstrapMethods #[⟨126, #[123, 124, 125]⟩]] #[{ accessFlags := 0, nameIndex := 5, descriptorIndex := 6, attributes := #[] }, { accessFlags := 0, nameIndex := 100, descriptorIndex := 101, attributes := #[] }, { accessFlags := 0, nameIndex := 102, descriptorIndex := 101, attributes := #[] }, { accessFlags := 0, nameIndex := 103, descriptorIndex := 101, attributes := #[] }, { accessFlags := 0, nameIndex := 30, descriptorIndex := 101, attributes := #[] }] 48 2 #[] #[{ accessFlags := 0, nameIndex := 34, descriptorIndex := 35, attributes := #[] }, { accessFlags := 0, nameIndex := 45, descriptorIndex := 31, attributes := #[] }, { accessFlags := 2, nameIndex := 38, descriptorIndex := 35, attributes := #[] }, { accessFlags := 2, nameIndex := 41, descriptorIndex := 42, attributes := #[] }, { accessFlags := 18, nameIndex := 20, descriptorIndex := 21, attributes := #[] }, { accessFlags := 18, nameIndex := 24, descriptorIndex := 21, attributes := #[] }, { accessFlags := 18, nameIndex := 30, descriptorIndex := 31, attributes := #[] }, { accessFlags := 2, nameIndex := 51, descriptorIndex := 52, attributes := #[] }])
  fields := #[{ name := "depth", type := .int, accessFlags := 0, slot := 0, constantValue := 0 }, { name := "openPart", type := (.object "com/example/letterhead/letterhead/LetterBuffer$Part"), accessFlags := 0, slot := 1, constantValue := 0 }, { name := "number", type := .int, accessFlags := 2, slot := 2, constantValue := 0 }, { name := "type", type := (.object "java/lang/String"), accessFlags := 2, slot := 3, constantValue := 0 }, { name := "names", type := (.object "com/example/letterhead/letterhead/LetterBuffer$Buffers"), accessFlags := 18, slot := 4, constantValue := 0 }, { name := "places", type := (.object "com/example/letterhead/letterhead/LetterBuffer$Buffers"), accessFlags := 18, slot := 5, constantValue := 0 }, { name := "date", type := (.object "com/example/letterhead/letterhead/LetterBuffer$Part"), accessFlags := 18, slot := 6, constantValue := 0 }, { name := "dated", type := .boolean, accessFlags := 2, slot := 7, constantValue := 0 }]
  methods := #[k2m0, k2m1, k2m2, k2m3, k2m4]
  instanceTypes := #[.int, (.object "com/example/letterhead/letterhead/LetterBuffer$Part"), .int, (.object "java/lang/String"), (.object "com/example/letterhead/letterhead/LetterBuffer$Buffers"), (.object "com/example/letterhead/letterhead/LetterBuffer$Buffers"), (.object "com/example/letterhead/letterhead/LetterBuffer$Part"), .boolean]
  staticTypes := #[]
  resolved := Array.replicate 142 none
  callSites := [(0, 9, .constant 1), (0, 25, .constant 2)]
  statics := none }

def pool3 : Array CpInfo := pool [(1, .methodref 2 3), (0, .class_ 4), (0, .nameAndType 5 6), (0, u "java/lang/Object"), (0, u "<init>"), (0, u "()V"), (0, .fieldref 8 9), (0, .class_ 10), (0, .nameAndType 11 12), (0, u "com/example/letterhead/letterhead/LetterBuffer$Buffers"), (0, u "kept"), (0, u "[Ljava/lang/Object;"), (0, .fieldref 8 14), (0, .nameAndType 15 16), (0, u "make"), (0, u "Ljava/util/function/Supplier;"), (0, .fieldref 8 18), (0, .nameAndType 19 20), (0, u "size"), (0, u "I"), (0, .methodref 8 22), (0, .nameAndType 23 6), (0, u "makeNext"), (0, .methodref 8 25), (0, .nameAndType 26 27), (0, u "get"), (0, u "(I)Ljava/lang/Object;"), (6, .interfaceMethodref 35 36), (0, .class_ 37), (0, .nameAndType 26 38), (0, u "java/util/function/Supplier"), (0, u "()Ljava/lang/Object;"), (7, u "(Ljava/util/function/Supplier;)V"), (3, u "add"), (11, .class_ 63), (0, u "com/example/letterhead/letterhead/LetterBuffer")] 2

def k3c0 : Code := { maxStack := 2, maxLocals := 2, code := prog_38_method_1_code, exceptionTable := #[], attributes := #[] }
def k3m0 : Method := { name := "<init>", desc := "(Ljava/util/function/Supplier;)V", sig := { parameters := [(.object "java/util/function/Supplier")], returnType := none }, accessFlags := 0, code := some k3c0 }
def k3c1 : Code := { maxStack := 3, maxLocals := 1, code := prog_38_method_2_code, exceptionTable := #[], attributes := #[] }
def k3m1 : Method := { name := "add", desc := "()Ljava/lang/Object;", sig := { parameters := [], returnType := some (.object "java/lang/Object") }, accessFlags := 0, code := some k3c1 }
def k3c2 : Code := { maxStack := 4, maxLocals := 1, code := prog_38_method_3_code, exceptionTable := #[], attributes := #[] }
def k3m2 : Method := { name := "makeNext", desc := "()V", sig := { parameters := [], returnType := none }, accessFlags := 2, code := some k3c2 }
def k3c3 : Code := { maxStack := 3, maxLocals := 2, code := prog_38_method_5_code, exceptionTable := #[], attributes := #[] }
def k3m3 : Method := { name := "get", desc := "(I)Ljava/lang/Object;", sig := { parameters := [.int], returnType := some (.object "java/lang/Object") }, accessFlags := 0, code := some k3c3 }
/-- com/example/letterhead/letterhead/LetterBuffer$Buffers -/
def k3 : Class := { plain "com/example/letterhead/letterhead/LetterBuffer$Buffers" (some 0) with
  accessFlags := 48
  interfaces := #[]
  cf := some (fileOf pool3 8 #[.nestHost 62] #[{ accessFlags := 0, nameIndex := 5, descriptorIndex := 46, attributes := #[] }, { accessFlags := 0, nameIndex := 50, descriptorIndex := 38, attributes := #[] }, { accessFlags := 2, nameIndex := 23, descriptorIndex := 6, attributes := #[] }, { accessFlags := 0, nameIndex := 26, descriptorIndex := 27, attributes := #[] }] 48 2 #[] #[{ accessFlags := 2, nameIndex := 11, descriptorIndex := 12, attributes := #[] }, { accessFlags := 18, nameIndex := 15, descriptorIndex := 16, attributes := #[] }, { accessFlags := 2, nameIndex := 19, descriptorIndex := 20, attributes := #[] }])
  fields := #[{ name := "kept", type := (.array (.object "java/lang/Object")), accessFlags := 2, slot := 0, constantValue := 0 }, { name := "make", type := (.object "java/util/function/Supplier"), accessFlags := 18, slot := 1, constantValue := 0 }, { name := "size", type := .int, accessFlags := 2, slot := 2, constantValue := 0 }]
  methods := #[k3m0, k3m1, k3m2, k3m3]
  instanceTypes := #[(.array (.object "java/lang/Object")), (.object "java/util/function/Supplier"), .int]
  staticTypes := #[]
  resolved := Array.replicate 66 none
  statics := none }

def pool4 : Array CpInfo := pool [(1, .class_ 2), (0, u "java/util/function/Supplier"), (0, .class_ 4), (0, u "java/lang/Object"), (0, u "get"), (0, u "()Ljava/lang/Object;")] 7

def k4m0 : Method := { name := "get", desc := "()Ljava/lang/Object;", sig := { parameters := [], returnType := some (.object "java/lang/Object") }, accessFlags := 1025, code := none }
/-- java/util/function/Supplier -/
def k4 : Class := { plain "java/util/function/Supplier" (some 0) with
  accessFlags := 1537
  interfaces := #[]
  cf := some (fileOf pool4 1 #[] #[{ accessFlags := 1025, nameIndex := 5, descriptorIndex := 6, attributes := #[] }] 1537 3 #[] #[])
  fields := #[]
  methods := #[k4m0]
  instanceTypes := #[]
  staticTypes := #[]
  resolved := Array.replicate 14 none
  statics := none }

def pool5 : Array CpInfo := pool [(1, .methodref 2 3), (0, .class_ 4), (0, .nameAndType 5 6), (0, u "java/lang/Object"), (0, u "<init>"), (0, u "()V"), (0, .fieldref 8 9), (0, .class_ 10), (0, .nameAndType 11 12), (0, u "com/example/letterhead/letterhead/LetterBuffer$Part"), (0, u "ATTRIBUTES"), (0, u "Ljava/util/List;"), (0, .interfaceMethodref 14 15), (0, .class_ 16), (0, .nameAndType 17 18), (0, u "java/util/List"), (0, u "size"), (0, u "()I"), (0, .class_ 20), (0, u "java/lang/String"), (0, .fieldref 8 22), (0, .nameAndType 23 24), (0, u "values"), (0, u "[Ljava/lang/String;"), (0, .fieldref 8 26), (0, .nameAndType 27 28), (0, u "text"), (0, u "[C"), (28, u "depth"), (0, u "I"), (2, u "element"), (0, u "Ljava/lang/String;"), (8, u "collected"), (77, u "REF"), (2, u "EVIDENCE"), (1, u "CERT"), (1, u "DATING"), (18, .class_ 176), (0, u "com/example/letterhead/letterhead/LetterBuffer")] 2

def k5c0 : Code := { maxStack := 2, maxLocals := 1, code := prog_39_method_1_code, exceptionTable := #[], attributes := #[] }
def k5m0 : Method := { name := "<init>", desc := "()V", sig := { parameters := [], returnType := none }, accessFlags := 0, code := some k5c0 }
/-- com/example/letterhead/letterhead/LetterBuffer$Part -/
def k5 : Class := { plain "com/example/letterhead/letterhead/LetterBuffer$Part" (some 0) with
  accessFlags := 48
  interfaces := #[]
  cf := some (fileOf pool5 8 #[.nestHost 175] #[{ accessFlags := 0, nameIndex := 5, descriptorIndex := 6, attributes := #[] }] 48 2 #[] #[{ accessFlags := 26, nameIndex := 11, descriptorIndex := 12, attributes := #[] }, { accessFlags := 26, nameIndex := 149, descriptorIndex := 58, attributes := #[] }, { accessFlags := 26, nameIndex := 152, descriptorIndex := 58, attributes := #[] }, { accessFlags := 26, nameIndex := 154, descriptorIndex := 58, attributes := #[] }, { accessFlags := 26, nameIndex := 156, descriptorIndex := 58, attributes := #[] }, { accessFlags := 0, nameIndex := 57, descriptorIndex := 58, attributes := #[] }, { accessFlags := 2, nameIndex := 61, descriptorIndex := 62, attributes := #[] }, { accessFlags := 18, nameIndex := 23, descriptorIndex := 24, attributes := #[] }, { accessFlags := 2, nameIndex := 27, descriptorIndex := 28, attributes := #[] }, { accessFlags := 2, nameIndex := 71, descriptorIndex := 58, attributes := #[] }])
  fields := #[{ name := "ATTRIBUTES", type := (.object "java/util/List"), accessFlags := 26, slot := 0, constantValue := 0 }, { name := "REF", type := .int, accessFlags := 26, slot := 1, constantValue := 0 }, { name := "EVIDENCE", type := .int, accessFlags := 26, slot := 2, constantValue := 0 }, { name := "CERT", type := .int, accessFlags := 26, slot := 3, constantValue := 0 }, { name := "DATING", type := .int, accessFlags := 26, slot := 4, constantValue := 0 }, { name := "depth", type := .int, accessFlags := 0, slot := 0, constantValue := 0 }, { name := "element", type := (.object "java/lang/String"), accessFlags := 2, slot := 1, constantValue := 0 }, { name := "values", type := (.array (.object "java/lang/String")), accessFlags := 18, slot := 2, constantValue := 0 }, { name := "text", type := (.array .char), accessFlags := 2, slot := 3, constantValue := 0 }, { name := "collected", type := .int, accessFlags := 2, slot := 4, constantValue := 0 }]
  methods := #[k5m0]
  instanceTypes := #[.int, (.object "java/lang/String"), (.array (.object "java/lang/String")), (.array .char), .int]
  staticTypes := #[(.object "java/util/List"), .int, .int, .int, .int]
  resolved := Array.replicate 179 none
  statics := some 0 }

def pool6 : Array CpInfo := pool [(8, .class_ 10), (1, u "java/lang/Iterable"), (24, .class_ 36), (0, u "java/lang/Object")] 25

/-- java/lang/Iterable -/
def k6 : Class := { plain "java/lang/Iterable" (some 0) with
  accessFlags := 1537
  interfaces := #[]
  cf := some (fileOf pool6 8 #[] #[] 1537 35 #[] #[])
  fields := #[]
  methods := #[]
  instanceTypes := #[]
  staticTypes := #[]
  resolved := Array.replicate 62 none
  statics := none }

def pool7 : Array CpInfo := pool [(10, .class_ 12), (1, u "java/util/Collection"), (47, .class_ 61), (0, u "java/lang/Object"), (0, .class_ 63), (0, u "java/lang/Iterable")] 51

/-- java/util/Collection -/
def k7 : Class := { plain "java/util/Collection" (some 0) with
  accessFlags := 1537
  interfaces := #[6]
  cf := some (fileOf pool7 10 #[] #[] 1537 60 #[62] #[])
  fields := #[]
  methods := #[]
  instanceTypes := #[]
  staticTypes := #[]
  resolved := Array.replicate 115 none
  statics := none }

def pool8 : Array CpInfo := pool [(8, .class_ 10), (1, u "java/util/SequencedCollection"), (15, .class_ 27), (0, u "java/lang/Object"), (0, .class_ 29), (0, u "java/util/Collection")] 27

/-- java/util/SequencedCollection -/
def k8 : Class := { plain "java/util/SequencedCollection" (some 0) with
  accessFlags := 1537
  interfaces := #[7]
  cf := some (fileOf pool8 8 #[] #[] 1537 26 #[28] #[])
  fields := #[]
  methods := #[]
  instanceTypes := #[]
  staticTypes := #[]
  resolved := Array.replicate 57 none
  statics := none }

def pool9 : Array CpInfo := pool [(8, .class_ 10), (1, u "java/util/List"), (68, u "size"), (0, u "()I"), (22, .class_ 104), (0, u "java/lang/Object"), (15, .class_ 121), (0, u "java/util/SequencedCollection")] 129

def k9m0 : Method := { name := "size", desc := "()I", sig := { parameters := [], returnType := some .int }, accessFlags := 1025, code := none }
/-- java/util/List -/
def k9 : Class := { plain "java/util/List" (some 0) with
  accessFlags := 1537
  interfaces := #[8]
  cf := some (fileOf pool9 8 #[] #[{ accessFlags := 1025, nameIndex := 79, descriptorIndex := 80, attributes := #[] }] 1537 103 #[120] #[])
  fields := #[]
  methods := #[k9m0]
  instanceTypes := #[]
  staticTypes := #[]
  resolved := Array.replicate 251 none
  statics := none }

def pool10 : Array CpInfo := pool [(2, .class_ 4), (1, u "java/lang/Object"), (0, u "<init>"), (0, u "()V"), (1, .class_ 10), (1, u "java/util/AbstractCollection"), (66, .class_ 78), (0, u "java/util/Collection")] 81

def k10m0 : Method := { name := "<init>", desc := "()V", sig := { parameters := [], returnType := none }, accessFlags := 4, code := none }
/-- java/util/AbstractCollection -/
def k10 : Class := { plain "java/util/AbstractCollection" (some 0) with
  accessFlags := 1057
  interfaces := #[7]
  cf := some (fileOf pool10 8 #[] #[{ accessFlags := 4, nameIndex := 5, descriptorIndex := 6, attributes := #[] }] 1057 2 #[77] #[])
  fields := #[]
  methods := #[k10m0]
  instanceTypes := #[]
  staticTypes := #[]
  resolved := Array.replicate 160 none
  statics := none }

def pool11 : Array CpInfo := pool [(2, .class_ 4), (1, u "java/util/AbstractCollection"), (0, u "<init>"), (0, u "()V"), (1, .class_ 10), (1, u "java/util/ImmutableCollections"), (2, .class_ 14), (0, u "java/util/ImmutableCollections$AbstractImmutableCollection")] 41

def k11m0 : Method := { name := "<init>", desc := "()V", sig := { parameters := [], returnType := none }, accessFlags := 0, code := none }
/-- java/util/ImmutableCollections$AbstractImmutableCollection -/
def k11 : Class := { plain "java/util/ImmutableCollections$AbstractImmutableCollection" (some 10) with
  accessFlags := 1056
  interfaces := #[]
  cf := some (fileOf pool11 13 #[.nestHost 8] #[{ accessFlags := 0, nameIndex := 5, descriptorIndex := 6, attributes := #[] }] 1056 2 #[] #[])
  fields := #[]
  methods := #[k11m0]
  instanceTypes := #[]
  staticTypes := #[]
  resolved := Array.replicate 56 none
  statics := none }

def pool12 : Array CpInfo := pool [(1, .class_ 2), (0, u "java/util/RandomAccess"), (0, .class_ 4), (0, u "java/lang/Object")] 2

/-- java/util/RandomAccess -/
def k12 : Class := { plain "java/util/RandomAccess" (some 0) with
  accessFlags := 1537
  interfaces := #[]
  cf := some (fileOf pool12 1 #[] #[] 1537 3 #[] #[])
  fields := #[]
  methods := #[]
  instanceTypes := #[]
  staticTypes := #[]
  resolved := Array.replicate 7 none
  statics := none }

def pool13 : Array CpInfo := pool [(2, .class_ 4), (1, u "java/util/ImmutableCollections$AbstractImmutableCollection"), (0, u "<init>"), (0, u "()V"), (1, .class_ 10), (1, u "java/util/ImmutableCollections"), (3, .class_ 16), (1, u "java/util/ImmutableCollections$AbstractImmutableList"), (60, .class_ 78), (0, u "java/util/List"), (45, .class_ 125), (0, u "java/util/RandomAccess")] 70

def k13m0 : Method := { name := "<init>", desc := "()V", sig := { parameters := [], returnType := none }, accessFlags := 0, code := none }
/-- java/util/ImmutableCollections$AbstractImmutableList -/
def k13 : Class := { plain "java/util/ImmutableCollections$AbstractImmutableList" (some 11) with
  accessFlags := 1056
  interfaces := #[9, 12]
  cf := some (fileOf pool13 14 #[.nestHost 8] #[{ accessFlags := 0, nameIndex := 5, descriptorIndex := 6, attributes := #[] }] 1056 2 #[77, 124] #[])
  fields := #[]
  methods := #[k13m0]
  instanceTypes := #[]
  staticTypes := #[]
  resolved := Array.replicate 196 none
  statics := none }

def pool14 : Array CpInfo := pool [(1, .class_ 2), (0, u "java/io/Serializable"), (0, .class_ 4), (0, u "java/lang/Object")] 2

/-- java/io/Serializable -/
def k14 : Class := { plain "java/io/Serializable" (some 0) with
  accessFlags := 1537
  interfaces := #[]
  cf := some (fileOf pool14 1 #[] #[] 1537 3 #[] #[])
  fields := #[]
  methods := #[]
  instanceTypes := #[]
  staticTypes := #[]
  resolved := Array.replicate 7 none
  statics := none }

def pool15 : Array CpInfo := pool [(2, .class_ 4), (1, u "java/util/ImmutableCollections$AbstractImmutableList"), (2, .fieldref 8 9), (0, .class_ 10), (0, .nameAndType 11 12), (0, u "java/util/ImmutableCollections$ListN"), (0, u "elements"), (0, u "[Ljava/lang/Object;"), (2, u "allowNulls"), (0, u "Z"), (42, .class_ 60), (0, u "java/io/Serializable"), (16, u "size"), (0, u "()I"), (35, .class_ 115), (0, u "java/util/ImmutableCollections")] 3

def k15c0 : Code := { maxStack := 1, maxLocals := 1, code := jdk_45_method_3_code, exceptionTable := #[], attributes := #[] }
def k15m0 : Method := { name := "size", desc := "()I", sig := { parameters := [], returnType := some .int }, accessFlags := 1, code := some k15c0 }
/-- java/util/ImmutableCollections$ListN -/
def k15 : Class := { plain "java/util/ImmutableCollections$ListN" (some 13) with
  accessFlags := 48
  interfaces := #[14]
  cf := some (fileOf pool15 8 #[.nestHost 114] #[{ accessFlags := 1, nameIndex := 77, descriptorIndex := 78, attributes := #[] }] 48 2 #[59] #[{ accessFlags := 18, nameIndex := 11, descriptorIndex := 12, attributes := #[] }, { accessFlags := 18, nameIndex := 15, descriptorIndex := 16, attributes := #[] }])
  fields := #[{ name := "elements", type := (.array (.object "java/lang/Object")), accessFlags := 18, slot := 0, constantValue := 0 }, { name := "allowNulls", type := .boolean, accessFlags := 18, slot := 1, constantValue := 0 }]
  methods := #[k15m0]
  instanceTypes := #[(.array (.object "java/lang/Object")), .boolean]
  staticTypes := #[]
  resolved := Array.replicate 119 none
  statics := none }

def pool16 : Array CpInfo := pool [(1, .class_ 2), (0, u "java/lang/Comparable"), (0, .class_ 4), (0, u "java/lang/Object")] 7

/-- java/lang/Comparable -/
def k16 : Class := { plain "java/lang/Comparable" (some 0) with
  accessFlags := 1537
  interfaces := #[]
  cf := some (fileOf pool16 1 #[] #[] 1537 3 #[] #[])
  fields := #[]
  methods := #[]
  instanceTypes := #[]
  staticTypes := #[]
  resolved := Array.replicate 12 none
  statics := none }

def pool17 : Array CpInfo := pool [(2, .class_ 4), (1, u "java/lang/CharSequence"), (42, .class_ 48), (0, u "java/lang/CharSequence$1CodePointIterator"), (10, .class_ 60), (0, u "java/lang/CharSequence$1CharIterator"), (5, .class_ 67), (0, u "java/lang/Object")] 63

/-- java/lang/CharSequence -/
def k17 : Class := { plain "java/lang/CharSequence" (some 0) with
  accessFlags := 1537
  interfaces := #[]
  cf := some (fileOf pool17 2 #[.nestMembers #[47, 59]] #[] 1537 66 #[] #[])
  fields := #[]
  methods := #[]
  instanceTypes := #[]
  staticTypes := #[]
  resolved := Array.replicate 131 none
  statics := none }

def pool18 : Array CpInfo := pool [(1, .class_ 2), (0, u "java/lang/constant/Constable"), (0, .class_ 4), (0, u "java/lang/Object")] 6

/-- java/lang/constant/Constable -/
def k18 : Class := { plain "java/lang/constant/Constable" (some 0) with
  accessFlags := 1537
  interfaces := #[]
  cf := some (fileOf pool18 1 #[] #[] 1537 3 #[] #[])
  fields := #[]
  methods := #[]
  instanceTypes := #[]
  staticTypes := #[]
  resolved := Array.replicate 11 none
  statics := none }

def pool19 : Array CpInfo := pool [(1, .class_ 2), (0, u "java/lang/constant/ConstantDesc"), (0, .class_ 4), (0, u "java/lang/Object")] 32

/-- java/lang/constant/ConstantDesc -/
def k19 : Class := { plain "java/lang/constant/ConstantDesc" (some 0) with
  accessFlags := 1537
  interfaces := #[]
  cf := some (fileOf pool19 1 #[] #[] 1537 3 #[] #[])
  fields := #[]
  methods := #[]
  instanceTypes := #[]
  staticTypes := #[]
  resolved := Array.replicate 37 none
  statics := none }

def pool20 : Array CpInfo := pool [(2, .class_ 4), (1, u "java/lang/Object"), (0, u "<init>"), (0, u "()V"), (3, .class_ 12), (1, u "java/lang/String"), (0, u "value"), (0, u "[B"), (2, u "coder"), (0, u "B"), (2, u "hash"), (0, u "I"), (2, u "hashIsZero"), (0, u "Z"), (13, u "COMPACT_STRINGS"), (534, .class_ 576), (0, u "java/lang/CharSequence"), (22, u "CASE_INSENSITIVE_ORDER"), (0, u "Ljava/util/Comparator;"), (500, u "serialPersistentFields"), (0, u "[Ljava/io/ObjectStreamField;"), (0, .class_ 1104), (0, u "java/lang/String$CaseInsensitiveComparator"), (1, .class_ 1107), (0, u "java/io/Serializable"), (0, .class_ 1109), (0, u "java/lang/Comparable"), (0, .class_ 1111), (0, u "java/lang/constant/Constable"), (0, .class_ 1113), (0, u "java/lang/constant/ConstantDesc"), (2, u "serialVersionUID"), (0, u "J"), (3, u "REPL"), (0, u "C"), (2, u "LATIN1"), (1, u "UTF16")] 323

def k20m0 : Method := { name := "<init>", desc := "()V", sig := { parameters := [], returnType := none }, accessFlags := 1, code := none }
/-- java/lang/String -/
def k20 : Class := { plain "java/lang/String" (some 0) with
  accessFlags := 49
  interfaces := #[14, 16, 17, 18, 19]
  cf := some (fileOf pool20 10 #[.nestMembers #[1103]] #[{ accessFlags := 1, nameIndex := 5, descriptorIndex := 6, attributes := #[] }] 49 2 #[1106, 1108, 575, 1110, 1112] #[{ accessFlags := 18, nameIndex := 13, descriptorIndex := 14, attributes := #[] }, { accessFlags := 18, nameIndex := 17, descriptorIndex := 18, attributes := #[] }, { accessFlags := 2, nameIndex := 21, descriptorIndex := 22, attributes := #[] }, { accessFlags := 2, nameIndex := 25, descriptorIndex := 26, attributes := #[] }, { accessFlags := 26, nameIndex := 1116, descriptorIndex := 1117, attributes := #[] }, { accessFlags := 24, nameIndex := 40, descriptorIndex := 26, attributes := #[] }, { accessFlags := 26, nameIndex := 1101, descriptorIndex := 1102, attributes := #[] }, { accessFlags := 26, nameIndex := 1121, descriptorIndex := 1122, attributes := #[] }, { accessFlags := 25, nameIndex := 599, descriptorIndex := 600, attributes := #[] }, { accessFlags := 24, nameIndex := 1125, descriptorIndex := 18, attributes := #[] }, { accessFlags := 24, nameIndex := 1127, descriptorIndex := 18, attributes := #[] }])
  fields := #[{ name := "value", type := (.array .byte), accessFlags := 18, slot := 0, constantValue := 0 }, { name := "coder", type := .byte, accessFlags := 18, slot := 1, constantValue := 0 }, { name := "hash", type := .int, accessFlags := 2, slot := 2, constantValue := 0 }, { name := "hashIsZero", type := .boolean, accessFlags := 2, slot := 3, constantValue := 0 }, { name := "serialVersionUID", type := .long, accessFlags := 26, slot := 0, constantValue := 0 }, { name := "COMPACT_STRINGS", type := .boolean, accessFlags := 24, slot := 1, constantValue := 0 }, { name := "serialPersistentFields", type := (.array (.object "java/io/ObjectStreamField")), accessFlags := 26, slot := 2, constantValue := 0 }, { name := "REPL", type := .char, accessFlags := 26, slot := 3, constantValue := 0 }, { name := "CASE_INSENSITIVE_ORDER", type := (.object "java/util/Comparator"), accessFlags := 25, slot := 4, constantValue := 0 }, { name := "LATIN1", type := .byte, accessFlags := 24, slot := 5, constantValue := 0 }, { name := "UTF16", type := .byte, accessFlags := 24, slot := 6, constantValue := 0 }]
  methods := #[k20m0]
  instanceTypes := #[(.array .byte), .byte, .int, .boolean]
  staticTypes := #[.long, .boolean, (.array (.object "java/io/ObjectStreamField")), .char, (.object "java/util/Comparator"), .byte, .byte]
  resolved := Array.replicate 1451 none
  statics := none }

def pool21 : Array CpInfo := pool [(1, u "java/lang/Cloneable"), (0, .class_ 1), (0, u "java/lang/Object"), (0, .class_ 3)] 3

/-- java/lang/Cloneable -/
def k21 : Class := { plain "java/lang/Cloneable" (some 0) with
  accessFlags := 1537
  interfaces := #[]
  cf := some (fileOf pool21 2 #[] #[] 1537 4 #[] #[])
  fields := #[]
  methods := #[]
  instanceTypes := #[]
  staticTypes := #[]
  resolved := Array.replicate 8 none
  statics := none }

/-- the primitive byte -/
def k22 : Class := { plain "byte" none with kind := .primitive 'B', accessFlags := 0x411 }
/-- [B -/
def k23 : Class := { plain "[B" (some 0) with kind := .array 22 .byte, interfaces := #[21, 14], accessFlags := 1041 }

/-- the primitive char -/
def k24 : Class := { plain "char" none with kind := .primitive 'C', accessFlags := 0x411 }
/-- [C -/
def k25 : Class := { plain "[C" (some 0) with kind := .array 24 .char, interfaces := #[21, 14], accessFlags := 1041 }

/-- the primitive int -/
def k26 : Class := { plain "int" none with kind := .primitive 'I', accessFlags := 0x411 }
/-- [I -/
def k27 : Class := { plain "[I" (some 0) with kind := .array 26 .int, interfaces := #[21, 14], accessFlags := 1041 }

/-- [Ljava/lang/Object; -/
def k28 : Class := { plain "[Ljava/lang/Object;" (some 0) with kind := .array 0 (.object "java/lang/Object"), interfaces := #[21, 14], accessFlags := 1041 }

/-- [Ljava/lang/String; -/
def k29 : Class := { plain "[Ljava/lang/String;" (some 0) with kind := .array 20 (.object "java/lang/String"), interfaces := #[21, 14], accessFlags := 1041 }

def classes0 : Array Class := #[k0, k1, k2, k3, k4, k5, k6, k7, k8, k9, k10, k11, k12, k13, k14, k15, k16, k17, k18, k19, k20, k21, k22, k23, k24, k25, k26, k27, k28, k29]
/-- the class that the rule has made for the site at 9 of com/example/letterhead/letterhead/LetterBuffer$Action.<init> -/
def k30 : Class := Jvm.LamKit.madeRec { classes := classes0 } "com/example/letterhead/letterhead/LetterBuffer$Action" (Jvm.Lambda.Shape.mk "java/util/function/Supplier" "get" (Jvm.ClassFile.MethodDescriptor.mk ([] : List Jvm.ClassFile.FieldType) (Option.some (Jvm.ClassFile.FieldType.object "java/lang/Object"))) ([] : List Jvm.ClassFile.FieldType) (8 : Nat) "com/example/letterhead/letterhead/LetterBuffer$Part" "<init>" (Jvm.ClassFile.MethodDescriptor.mk ([] : List Jvm.ClassFile.FieldType) (Option.none : Option Jvm.ClassFile.FieldType)) false (Jvm.ClassFile.MethodDescriptor.mk ([] : List Jvm.ClassFile.FieldType) (Option.some (Jvm.ClassFile.FieldType.object "com/example/letterhead/letterhead/LetterBuffer$Part")))) 30

/-- the class that the rule has made for the site at 25 of com/example/letterhead/letterhead/LetterBuffer$Action.<init> -/
def k31 : Class := Jvm.LamKit.madeRec { classes := classes0 } "com/example/letterhead/letterhead/LetterBuffer$Action" (Jvm.Lambda.Shape.mk "java/util/function/Supplier" "get" (Jvm.ClassFile.MethodDescriptor.mk ([] : List Jvm.ClassFile.FieldType) (Option.some (Jvm.ClassFile.FieldType.object "java/lang/Object"))) ([] : List Jvm.ClassFile.FieldType) (8 : Nat) "com/example/letterhead/letterhead/LetterBuffer$Part" "<init>" (Jvm.ClassFile.MethodDescriptor.mk ([] : List Jvm.ClassFile.FieldType) (Option.none : Option Jvm.ClassFile.FieldType)) false (Jvm.ClassFile.MethodDescriptor.mk ([] : List Jvm.ClassFile.FieldType) (Option.some (Jvm.ClassFile.FieldType.object "com/example/letterhead/letterhead/LetterBuffer$Part")))) 31

def heap : Heap := #[{ cls := 5, slots := #[.ref 4, .int 0, .int 0, .int 0, .int 0], vm := .statics 5 },
  { cls := 30, slots := #[], vm := .none },
  { cls := 31, slots := #[], vm := .none },
  { cls := 28, slots := #[.null, .null, .null, .null, .null, .null, .null, .null], vm := .none },
  { cls := 15, slots := #[.ref 3, .int 0], vm := .none }]
def classes : Array Class := #[k0, k1, k2, k3, k4, k5, k6, k7, k8, k9, k10, k11, k12, k13, k14, k15, k16, k17, k18, k19, k20, k21, k22, k23, k24, k25, k26, k27, k28, k29, k30, k31]
def interned : List (Array UInt16 × Addr) := []
def slotsUsed : Nat := 15
def theMethod : MethodId := ⟨1, 1⟩
def args0 : Array Value := #[.int 31]
def aboutOver (below : List Frame) : State where
  vm := { classes := classes, interned := interned.toArray }
  heap := heap
  slotsUsed := slotsUsed
  threads := #[{ frames := .invoking theMethod args0 :: below }]
def below0 : List Frame := [.native { method := ⟨0, 0⟩, args := #[] }]
def about1 : State := aboutOver below0
def p0 : Program := .bare "" "" ""
def e0 : Env := launch0.env 0 0 0
theorem w_frames : about1.frames = Frame.invoking theMethod args0 :: below0 := rfl
set_option maxRecDepth 65536 in
theorem w_args : argsFit about1.vm theMethod args0 = true := by decide +kernel
set_option maxRecDepth 65536 in
theorem w_heap : heapFits about1 = true := by decide +kernel
set_option maxRecDepth 65536 in
theorem w_runnable : about1.curStatus? = some .runnable := by decide +kernel
set_option maxRecDepth 65536 in
theorem w_alone : about1.alone = true := by decide +kernel
set_option maxRecDepth 65536 in
theorem w_named : about1.methodNamed? x = some theMethod := by decide +kernel
set_option maxRecDepth 65536 in
theorem w_hears : about1.hears theMethod below0 = true := by decide +kernel
set_option maxRecDepth 65536 in
theorem w_ripe : about1.ripe theMethod args0 below0 = true := by decide +kernel
theorem w_running : about1.status = .running := rfl
set_option maxRecDepth 65536 in
theorem w_room : about1.hasRoom e0.platform room_1 = true :=
  launch0.hasRoom_least _ room_1 (by decide +kernel) (by decide +kernel) (by decide +kernel) (by decide +kernel) (by decide +kernel) (by decide +kernel)
theorem allAtoms_all (ts : List Jvm.Cond) (a : Array Jvm.Value) (st : Jvm.State) : (allAtoms ts).before a st = ts.all (fun c => c.before a st) := by
  induction ts with
  | nil => rfl
  | cons c t ih =>
    show (Jvm.Cond.and c (allAtoms t)).before a st = _
    rw [Jvm.Cond.before_and, ih, List.all_cons]
def words1 : List Jvm.Cond := Jvm.Cond.code x code maxLocals ret :: tables_1
/-- a 'code' word, met by the world's own term for the bytes: nothing is compared byte by byte -/
theorem code_word {y : MethodName} {bytes : ByteArray} {mx : Nat} {rt : Option FieldType} {a : Array Value} {s : State} {m : MethodId} {meth : Method} {c : Code} (h1 : s.methodNamed? y = some m) (h2 : s.vm.method? m = some meth) (h3 : meth.code = some c) (h4 : c.code = bytes)
    (h5 : (c.maxLocals == mx && c.exceptionTable.isEmpty && decide (c.maxStack ≤ mostOperands) && decide (meth.sig.returnType = rt) && !meth.locks && decide (parseMethodDescriptor y.desc = some meth.sig)) = true) : (Jvm.Cond.code y bytes mx rt).before a s = true := by
  simp only [Bool.and_eq_true, beq_iff_eq, Bool.not_eq_true', decide_eq_true_eq] at h5
  obtain ⟨⟨⟨⟨⟨g1, g2⟩, g3⟩, g4⟩, g5⟩, g6⟩ := h5
  simp [Cond.before, Cond.holds, Cond.value, h1, h2, h3, h4, g1, g2, g3, g4, g5, g6]
def isCode : Jvm.Cond → Bool
  | .code _ _ _ _ => true
  | _ => false
theorem all_split {L : List Jvm.Cond} {P : Jvm.Cond → Bool} (h1 : L.all (fun c => isCode c || P c) = true) (h2 : ∀ c ∈ L.filter isCode, P c = true) : L.all P = true := by
  refine List.all_eq_true.mpr fun c hc => ?_
  have h := List.all_eq_true.mp h1 c hc
  rcases Bool.eq_false_or_eq_true (isCode c) with hi | hi
  · exact h2 c (List.mem_filter.mpr ⟨hc, hi⟩)
  · simpa [hi] using h
set_option maxRecDepth 65536 in
theorem w_c0 : (Jvm.Cond.code x code maxLocals ret).before args0 about1 = true := code_word (m := ⟨1, 1⟩) (meth := k1m1) (c := k1c1) (by decide +kernel) rfl rfl rfl (by decide +kernel)
set_option maxRecDepth 65536 in
theorem w_c1 : (Jvm.Cond.code ({ cls := "com/example/letterhead/letterhead/LetterBuffer$Action", name := "<init>", desc := "()V" } : Jvm.MethodName) prog_37_method_1_code (1 : Nat) (Option.none : Option Jvm.ClassFile.FieldType)).before args0 about1 = true := code_word (m := ⟨2, 0⟩) (meth := k2m0) (c := k2c0) (by decide +kernel) rfl rfl rfl (by decide +kernel)
set_option maxRecDepth 65536 in
theorem w_c2 : (Jvm.Cond.code ({ cls := "java/lang/Object", name := "<init>", desc := "()V" } : Jvm.MethodName) object_method_1_code (1 : Nat) (Option.none : Option Jvm.ClassFile.FieldType)).before args0 about1 = true := code_word (m := ⟨0, 0⟩) (meth := k0m0) (c := k0c0) (by decide +kernel) rfl rfl rfl (by decide +kernel)
set_option maxRecDepth 65536 in
theorem w_c3 : (Jvm.Cond.code ({ cls := "com/example/letterhead/letterhead/LetterBuffer$Buffers", name := "<init>", desc := "(Ljava/util/function/Supplier;)V" } : Jvm.MethodName) prog_38_method_1_code (2 : Nat) (Option.none : Option Jvm.ClassFile.FieldType)).before args0 about1 = true := code_word (m := ⟨3, 0⟩) (meth := k3m0) (c := k3c0) (by decide +kernel) rfl rfl rfl (by decide +kernel)
set_option maxRecDepth 65536 in
theorem w_c4 : (Jvm.Cond.code ({ cls := "com/example/letterhead/letterhead/LetterBuffer$Part", name := "<init>", desc := "()V" } : Jvm.MethodName) prog_39_method_1_code (1 : Nat) (Option.none : Option Jvm.ClassFile.FieldType)).before args0 about1 = true := code_word (m := ⟨5, 0⟩) (meth := k5m0) (c := k5c0) (by decide +kernel) rfl rfl rfl (by decide +kernel)
set_option maxRecDepth 65536 in
theorem w_c5 : (Jvm.Cond.code ({ cls := "java/util/ImmutableCollections$ListN", name := "size", desc := "()I" } : Jvm.MethodName) jdk_45_method_3_code (1 : Nat) (Option.some Jvm.ClassFile.FieldType.int)).before args0 about1 = true := code_word (m := ⟨15, 0⟩) (meth := k15m0) (c := k15c0) (by decide +kernel) rfl rfl rfl (by decide +kernel)
set_option maxRecDepth 65536 in
theorem w_c6 : (Jvm.Cond.code ({ cls := "com/example/letterhead/letterhead/LetterBuffer$Action", name := "date", desc := "()Lcom/example/letterhead/letterhead/LetterBuffer$Part;" } : Jvm.MethodName) prog_37_method_11_code (1 : Nat) (Option.some (Jvm.ClassFile.FieldType.object "com/example/letterhead/letterhead/LetterBuffer$Part"))).before args0 about1 = true := code_word (m := ⟨2, 4⟩) (meth := k2m4) (c := k2c4) (by decide +kernel) rfl rfl rfl (by decide +kernel)
set_option maxRecDepth 65536 in
theorem w_c7 : (Jvm.Cond.code ({ cls := "com/example/letterhead/letterhead/LetterBuffer$Action", name := "addName", desc := "()Lcom/example/letterhead/letterhead/LetterBuffer$Part;" } : Jvm.MethodName) prog_37_method_3_code (1 : Nat) (Option.some (Jvm.ClassFile.FieldType.object "com/example/letterhead/letterhead/LetterBuffer$Part"))).before args0 about1 = true := code_word (m := ⟨2, 1⟩) (meth := k2m1) (c := k2c1) (by decide +kernel) rfl rfl rfl (by decide +kernel)
set_option maxRecDepth 65536 in
theorem w_c8 : (Jvm.Cond.code ({ cls := "com/example/letterhead/letterhead/LetterBuffer$Buffers", name := "add", desc := "()Ljava/lang/Object;" } : Jvm.MethodName) prog_38_method_2_code (1 : Nat) (Option.some (Jvm.ClassFile.FieldType.object "java/lang/Object"))).before args0 about1 = true := code_word (m := ⟨3, 1⟩) (meth := k3m1) (c := k3c1) (by decide +kernel) rfl rfl rfl (by decide +kernel)
set_option maxRecDepth 65536 in
theorem w_c9 : (Jvm.Cond.code ({ cls := "com/example/letterhead/letterhead/LetterBuffer$Buffers", name := "makeNext", desc := "()V" } : Jvm.MethodName) prog_38_method_3_code (1 : Nat) (Option.none : Option Jvm.ClassFile.FieldType)).before args0 about1 = true := code_word (m := ⟨3, 2⟩) (meth := k3m2) (c := k3c2) (by decide +kernel) rfl rfl rfl (by decide +kernel)
set_option maxRecDepth 65536 in
theorem w_c10 : (Jvm.Cond.code ({ cls := "com/example/letterhead/letterhead/LetterBuffer$Buffers", name := "get", desc := "(I)Ljava/lang/Object;" } : Jvm.MethodName) prog_38_method_5_code (2 : Nat) (Option.some (Jvm.ClassFile.FieldType.object "java/lang/Object"))).before args0 about1 = true := code_word (m := ⟨3, 3⟩) (meth := k3m3) (c := k3c3) (by decide +kernel) rfl rfl rfl (by decide +kernel)
set_option maxRecDepth 65536 in
theorem w_c11 : (Jvm.Cond.code ({ cls := "com/example/letterhead/letterhead/LetterBuffer$Action", name := "addPlace", desc := "()Lcom/example/letterhead/letterhead/LetterBuffer$Part;" } : Jvm.MethodName) prog_37_method_4_code (1 : Nat) (Option.some (Jvm.ClassFile.FieldType.object "com/example/letterhead/letterhead/LetterBuffer$Part"))).before args0 about1 = true := code_word (m := ⟨2, 2⟩) (meth := k2m2) (c := k2c2) (by decide +kernel) rfl rfl rfl (by decide +kernel)
set_option maxRecDepth 65536 in
theorem w_c12 : (Jvm.Cond.code ({ cls := "com/example/letterhead/letterhead/LetterBuffer$Action", name := "addDate", desc := "()Lcom/example/letterhead/letterhead/LetterBuffer$Part;" } : Jvm.MethodName) prog_37_method_5_code (1 : Nat) (Option.some (Jvm.ClassFile.FieldType.object "com/example/letterhead/letterhead/LetterBuffer$Part"))).before args0 about1 = true := code_word (m := ⟨2, 3⟩) (meth := k2m3) (c := k2c3) (by decide +kernel) rfl rfl rfl (by decide +kernel)
def codes1 : List Jvm.Cond := [Jvm.Cond.code x code maxLocals ret, Jvm.Cond.code ({ cls := "com/example/letterhead/letterhead/LetterBuffer$Action", name := "<init>", desc := "()V" } : Jvm.MethodName) prog_37_method_1_code (1 : Nat) (Option.none : Option Jvm.ClassFile.FieldType), Jvm.Cond.code ({ cls := "java/lang/Object", name := "<init>", desc := "()V" } : Jvm.MethodName) object_method_1_code (1 : Nat) (Option.none : Option Jvm.ClassFile.FieldType), Jvm.Cond.code ({ cls := "com/example/letterhead/letterhead/LetterBuffer$Buffers", name := "<init>", desc := "(Ljava/util/function/Supplier;)V" } : Jvm.MethodName) prog_38_method_1_code (2 : Nat) (Option.none : Option Jvm.ClassFile.FieldType), Jvm.Cond.code ({ cls := "com/example/letterhead/letterhead/LetterBuffer$Part", name := "<init>", desc := "()V" } : Jvm.MethodName) prog_39_method_1_code (1 : Nat) (Option.none : Option Jvm.ClassFile.FieldType), Jvm.Cond.code ({ cls := "java/util/ImmutableCollections$ListN", name := "size", desc := "()I" } : Jvm.MethodName) jdk_45_method_3_code (1 : Nat) (Option.some Jvm.ClassFile.FieldType.int), Jvm.Cond.code ({ cls := "com/example/letterhead/letterhead/LetterBuffer$Action", name := "date", desc := "()Lcom/example/letterhead/letterhead/LetterBuffer$Part;" } : Jvm.MethodName) prog_37_method_11_code (1 : Nat) (Option.some (Jvm.ClassFile.FieldType.object "com/example/letterhead/letterhead/LetterBuffer$Part")), Jvm.Cond.code ({ cls := "com/example/letterhead/letterhead/LetterBuffer$Action", name := "addName", desc := "()Lcom/example/letterhead/letterhead/LetterBuffer$Part;" } : Jvm.MethodName) prog_37_method_3_code (1 : Nat) (Option.some (Jvm.ClassFile.FieldType.object "com/example/letterhead/letterhead/LetterBuffer$Part")), Jvm.Cond.code ({ cls := "com/example/letterhead/letterhead/LetterBuffer$Buffers", name := "add", desc := "()Ljava/lang/Object;" } : Jvm.MethodName) prog_38_method_2_code (1 : Nat) (Option.some (Jvm.ClassFile.FieldType.object "java/lang/Object")), Jvm.Cond.code ({ cls := "com/example/letterhead/letterhead/LetterBuffer$Buffers", name := "makeNext", desc := "()V" } : Jvm.MethodName) prog_38_method_3_code (1 : Nat) (Option.none : Option Jvm.ClassFile.FieldType), Jvm.Cond.code ({ cls := "com/example/letterhead/letterhead/LetterBuffer$Buffers", name := "get", desc := "(I)Ljava/lang/Object;" } : Jvm.MethodName) prog_38_method_5_code (2 : Nat) (Option.some (Jvm.ClassFile.FieldType.object "java/lang/Object")), Jvm.Cond.code ({ cls := "com/example/letterhead/letterhead/LetterBuffer$Action", name := "addPlace", desc := "()Lcom/example/letterhead/letterhead/LetterBuffer$Part;" } : Jvm.MethodName) prog_37_method_4_code (1 : Nat) (Option.some (Jvm.ClassFile.FieldType.object "com/example/letterhead/letterhead/LetterBuffer$Part")), Jvm.Cond.code ({ cls := "com/example/letterhead/letterhead/LetterBuffer$Action", name := "addDate", desc := "()Lcom/example/letterhead/letterhead/LetterBuffer$Part;" } : Jvm.MethodName) prog_37_method_5_code (1 : Nat) (Option.some (Jvm.ClassFile.FieldType.object "com/example/letterhead/letterhead/LetterBuffer$Part"))]
set_option maxRecDepth 65536 in
theorem codes_eq : words1.filter isCode = codes1 := rfl
theorem w_codes : ∀ c ∈ words1.filter isCode, c.before args0 about1 = true := by
  rw [codes_eq]
  intro c hc
  simp only [codes1, List.mem_cons, List.not_mem_nil, or_false] at hc
  rcases hc with rfl | rfl | rfl | rfl | rfl | rfl | rfl | rfl | rfl | rfl | rfl | rfl | rfl
  · exact w_c0
  · exact w_c1
  · exact w_c2
  · exact w_c3
  · exact w_c4
  · exact w_c5
  · exact w_c6
  · exact w_c7
  · exact w_c8
  · exact w_c9
  · exact w_c10
  · exact w_c11
  · exact w_c12
set_option maxRecDepth 65536 in
theorem w_t1 : (words1.take 24).all (fun c => isCode c || c.before args0 about1) = true := by decide +kernel
set_option maxRecDepth 65536 in
theorem w_t2 : ((words1.drop 24).take 24).all (fun c => isCode c || c.before args0 about1) = true := by decide +kernel
set_option maxRecDepth 65536 in
theorem w_t3 : (((words1.drop 24).drop 24).take 24).all (fun c => isCode c || c.before args0 about1) = true := by decide +kernel
set_option maxRecDepth 65536 in
theorem w_t4 : ((((words1.drop 24).drop 24).drop 24).take 24).all (fun c => isCode c || c.before args0 about1) = true := by decide +kernel
set_option maxRecDepth 65536 in
theorem w_t5 : ((((words1.drop 24).drop 24).drop 24).drop 24).all (fun c => isCode c || c.before args0 about1) = true := by decide +kernel
theorem w_tables : (allAtoms (Jvm.Cond.code x code maxLocals ret :: tables_1)).before args0 about1 = true := by
  rw [allAtoms_all]
  show words1.all (fun c => c.before args0 about1) = true
  refine all_split ?_ w_codes
  rw [← List.take_append_drop 24 words1, List.all_append, w_t1, ← List.take_append_drop 24 (words1.drop 24), List.all_append, w_t2, ← List.take_append_drop 24 ((words1.drop 24).drop 24), List.all_append, w_t3, ← List.take_append_drop 24 (((words1.drop 24).drop 24).drop 24), List.all_append, w_t4, w_t5]
  rfl
set_option maxRecDepth 65536 in
theorem w_case : (Jvm.Cond.and given_1 narrow_1).before args0 about1 = true := by decide +kernel
theorem w_applies : (headSpec (Jvm.Cond.code x code maxLocals ret :: tables_1) room_1).applies x e0.platform about1 = true :=
  (Spec.applies_iff w_frames).mpr ⟨w_running, w_runnable, w_alone, w_named, w_hears, w_ripe, w_room, w_tables⟩
theorem atStart : AtStart classFile x code maxLocals ret World_1 tables_1 room_1 Calls_1 rest_1 Pre_1 launch0 p0 e0 about1 theMethod args0 below0 :=
  ⟨lists_1, trivial, launch0.admits_env _ _ _, launch0.least_env, fairChoices_fair.cas, fairChoices_fair.clock, w_frames, w_args, w_heap, w_applies, trivial, trivial, w_case⟩
end start1
theorem witness_1 : WitnessClaimed_1 := ⟨start1.p0, start1.e0, start1.about1, start1.theMethod, start1.args0, start1.below0, start1.atStart⟩
end Jvm.Pilot.@@N@@
