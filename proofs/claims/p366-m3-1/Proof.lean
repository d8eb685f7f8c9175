import JvmDerived
import JvmDerived.Pilot.@@N@@Statement
import JvmDerived.Pilot.@@N@@Code
set_option linter.unusedVariables false
set_option linter.unusedSimpArgs false
namespace Jvm.Pilot.@@N@@
open Jvm Jvm.ClassFile Sem Op Lib Jvm.Free Jvm.Stand Jvm.LawKit Jvm.RoadKit Bundle Jvm.Pilot.@@N@@.Jvm.D
/-! OWN FRAMEWORK, part 1: a weakest-precondition form of the walk (W), its single steps, returns, calls -/
/-- what is known of the heap: addresses with what their cells are -/
abbrev Asn := List (Addr × (Cell → Prop))
def OldK (Z : State) (n0 k0 : Nat) (h : Heap) : Prop := Old Z n0 h ∧ k0 ≤ h.size
theorem OldK.wr {Z : State} {n0 k0 : Nat} {h h' : Heap} {a : Addr} {sl : Nat} {v : Value} (S : OldK Z n0 k0 h) (hW : Wr h h' a sl v) (hn : n0 ≤ a) : OldK Z n0 k0 h' := ⟨S.1.wr hW hn, by rw [hW.size]; exact S.2⟩
theorem OldK.ext {Z : State} {n0 k0 : Nat} {h h' : Heap} (S : OldK Z n0 k0 h) (E : Ext h h') : OldK Z n0 k0 h' := ⟨S.1.ext E, Nat.le_trans S.2 E.1⟩
def Sep (Z : State) (n0 k0 : Nat) (h : Heap) (σ : Asn) : Prop := OldK Z n0 k0 h ∧ (∀ x ∈ σ, n0 ≤ x.1 ∧ ∃ c : Cell, h[x.1]? = some c ∧ x.2 c) ∧ (σ.map (fun x => x.1)).Nodup
theorem Sep.low {Z : State} {n0 k0 k1 : Nat} {h : Heap} {σ : Asn} (S : Sep Z n0 k0 h σ) (hk : k1 ≤ h.size) : Sep Z n0 k1 h σ := ⟨⟨S.1.1, hk⟩, S.2⟩
/-- what is known of the literal "" (the class String's entry 7): none: the start has it; some none: nobody has it; some (some a): this run has loaded it, at a -/
abbrev Lst := Option (Option Addr)
def NoLit (vm : Vm) : Prop := ∃ (c : ClassId) (k : Class) (cf : ClassFile) (i : Nat) (text : String), vm.findClass "java/lang/String" = some c ∧ vm.classes[c]? = some k ∧ k.cf = some cf ∧ cf.constantPool[7]? = some (.string i) ∧ cf.constantPool[i]? = some (.utf8 #[]) ∧ namesOf? cf.constantPool 7 = some (.string text) ∧ k.resolved[7]? = some none ∧ vm.interned.find? (fun p => p.1 == #[]) = none
def VI (Z : State) (u : Lst) (vm : Vm) : Prop :=
  match u with
  | none => True
  | some none => NoLit vm
  | some (some a) => Lit (Z.setVm vm) "java/lang/String" 7 a
theorem NoLit.wide {s : State} {vm : Vm} (h : NoLit s.vm) (hW : s.Warmed39 vm) (hn : vm.interned.find? (fun p => p.1 == #[]) = none) : NoLit vm := by
  obtain ⟨c, k, cf, i, text, h1, h2, h3, h4, h5, h6, h7, h8⟩ := h
  obtain ⟨k', g2, e2, -, ee, -⟩ := hW.2.2.2 _ k h2
  have g3 : k'.cf = some cf := by rw [e2]; exact h3
  refine ⟨c, k', cf, i, text, by rw [hW.alike.findClass]; exact h1, g2, g3, h4, h5, h6, ?_, hn⟩
  rcases ee 7 with e0 | ⟨hop, r, e1, hr | ⟨a, t, si, us, rfl, -, q3, q4, q5⟩⟩
  · rw [e0]; exact h7
  · exfalso
    cases r <;> simp [State.rightAt, h2, h3, h6] at hr
  · exfalso
    rw [h3] at q3 q4
    have e3 : si = i := by
      have := q3.symm.trans h4
      simpa using this
    subst e3
    have e4 : us = #[] := by simpa [ConstantPool.utf8?, h5] using q4.symm
    subst e4
    rw [hn] at q5; cases q5
theorem VI.wide {Z s : State} {u : Lst} {vm : Vm} (h : VI Z u s.vm) (hW : s.Warmed39 vm) (hn : s.vm.interned.find? (fun p => p.1 == #[]) = none → vm.interned.find? (fun p => p.1 == #[]) = none) : VI Z u vm := by
  match u, h with
  | none, _ => trivial
  | some none, h => exact NoLit.wide h hW (hn h.choose_spec.choose_spec.choose_spec.choose_spec.choose_spec.2.2.2.2.2.2.2)
  | some (some a), h => exact State.resolvedAt?_warmed39 (s := s) hW (show s.resolvedAt? "java/lang/String" 7 = some (.string a) from h)
theorem VI.warm {Z s : State} {u : Lst} {vm : Vm} (h : VI Z u s.vm) (hW : s.WarmedH vm) : VI Z u vm := h.wide hW.wide (fun q => by rw [hW.interned_eq]; exact q)
/-- a body: its class, name, bytes, max_locals, return kind; the literal's state -/
abbrev Bdy := String × String × ByteArray × Nat × Option FieldType × Lst
abbrev Bdy.at (B : Bdy) (u : Lst) : Bdy := (B.1, B.2.1, B.2.2.1, B.2.2.2.1, B.2.2.2.2.1, u)
def Cx (p : Program) (s : State) (m : MethodId) (meth : Method) (c : Code) (Z : State) (B : Bdy) : Prop :=
  p.tables.exec = Jvm.exec ∧ c.code = B.2.2.1 ∧ c.maxLocals = B.2.2.2.1 ∧ s.vm.findClass B.1 = some m.cls ∧ meth.name = B.2.1 ∧ Z.Warmed39 s.vm ∧ meth.sig.returnType = B.2.2.2.2.1 ∧ meth.locks = false ∧ VI Z B.2.2.2.2.2 s.vm
/-- from this point (known heap, pc, locals, stack) the body returns, and what it returns meets Q -/
def W (l : Launch) (Z : State) (n0 : Nat) (B : Bdy) (R : Room) (Q : Lst → Option Value → Asn → Prop) (cells slots : Nat) (σ : Asn) (pc : Nat) (ls : Array Slot) (st : List Value) : Prop :=
  ∀ (p : Program) (e : Env) (s : State) (vm0 : Vm) (k0 : Nat) (m : MethodId) (args : Array Value) (below : List Frame) (meth : Method) (c : Code) (T : State) (locs : List Loc),
    Cx p (s.setVm vm0) m meth c Z B → s.Since vm0 k0 → Stand p l e R (s.setVm vm0) m args below meth c T locs cells slots → Fr n0 locs → Sep Z n0 k0 T.heap σ →
    ∃ (u : State) (o : Outcome), Steps p.tables e below (T.setTop (mkF m pc ls st)) u ∧ u.status = .running ∧ Ended u below o ∧
      ∃ (v : Option Value) (L : List Loc), o = .returned v ∧ ((∃ w σ', Q w v σ' ∧ VI Z w u.vm ∧ Sep Z n0 0 u.heap σ') ∧ Fr n0 L) ∧ ReturnedEndW s o u L R.cells R.slots
/-- a contract: called with these arguments on a heap that meets σ, the method returns, and Q holds -/
def Sp (l : Launch) (Z : State) (n0 : Nat) (u : Lst) (y : MethodName) (bytes : ByteArray) (maxL : Nat) (ret : Option FieldType) (rm : Room) (as : List Value) (σ : Asn) (Q : Lst → Option Value → Asn → Prop) : Prop :=
  ∀ (ws : List Jvm.Cond) (h0 : Heap), Sep Z n0 0 h0 σ → MetFree l y (head1 (Jvm.Cond.code y bytes maxL ret :: ws) rm) (fun a U => a = as.toArray ∧ Z.Warmed39 U.vm ∧ U.heap = h0 ∧ VI Z u U.vm) (fun _ _ _ _ _ => True)
    (fun _ U o U' => ∃ v L, o = .returned v ∧ ((∃ w σ', Q w v σ' ∧ VI Z w U'.vm ∧ Sep Z n0 0 U'.heap σ') ∧ Fr n0 L) ∧ ReturnedEndW U o U' L rm.cells rm.slots)
section Rules
variable {l : Launch} {Z : State} {n0 : Nat} {B : Bdy} {R : Room} {Q : Lst → Option Value → Asn → Prop} {cells slots : Nat} {σ : Asn} {pc pc' : Nat} {ls ls' : Array Slot} {st st' rest : List Value} {a0 : Array Value}
theorem Sp.of {u : Lst} {y : MethodName} {bytes : ByteArray} {maxL : Nat} {ret : Option FieldType} {as : List Value} (hpn : plainFor y = true) (hent : ∀ m, entryFrame m as.toArray maxL = mkF m 0 ls [])
    (k : W l Z n0 (y.cls, y.name, bytes, maxL, ret, u) R Q 0 0 σ 0 ls []) : Sp l Z n0 u y bytes maxL ret R as σ Q := by
  intro ws h0 hS
  refine MetFree.of_bodySF hpn hisR ?_
  intro p e s m args below meth c s₁ Bd hml0 hP hK
  obtain ⟨rfl, hZ, hh, hV⟩ := hP
  have e0 : s₁.heap = h0 := by rw [← hh, Bd.state]; rfl
  obtain ⟨u, o, h1, h2, h3, h4⟩ := k p e s s.vm 0 m _ below meth c s₁ [] ⟨Bd.exec, Bd.bytes, hml0, findClass_of_methodNamed Bd.named, (name_of_methodNamed Bd.named Bd.method).1, hZ, Bd.returns, Bd.notSynchronized, hV⟩ ((State.WarmedH.refl s).since 0) (Stand.of_body Bd) (Fr.nil n0) (by rw [e0]; exact hS)
  exact ⟨u, o, castTop (hent m) h1, h2, h3, h4⟩
theorem W.of (hstep : ∀ (p : Program) (e : Env) (s : State) (m : MethodId) (args : Array Value) (below : List Frame) (meth : Method) (c : Code) (T : State) (locs : List Loc), Cx p s m meth c Z B → Stand p l e R s m args below meth c T locs cells slots → ∀ t, Steps p.tables e below (T.setTop (mkF m pc' ls' st')) t → Steps p.tables e below (T.setTop (mkF m pc ls st)) t)
    (k : W l Z n0 B R Q cells slots σ pc' ls' st') : W l Z n0 B R Q cells slots σ pc ls st := by
  intro p e s vm0 k0 m args below meth c T locs C hSi X N S
  obtain ⟨u, o, h1, h2⟩ := k p e s vm0 k0 m args below meth c T locs C hSi X N S
  exact ⟨u, o, hstep p e (s.setVm vm0) m args below meth c T locs C X u h1, h2⟩
theorem W.mono {Q' : Lst → Option Value → Asn → Prop} (hQ : ∀ w v σ', Q w v σ' → Q' w v σ') (k : W l Z n0 B R Q cells slots σ pc ls st) : W l Z n0 B R Q' cells slots σ pc ls st := by
  intro p e s vm0 k0 m args below meth c T locs C hSi X N S
  obtain ⟨u, o, h1, h2, h3, v, L, h4, ⟨⟨w, σ', h5, h6⟩, h7⟩, h8⟩ := k p e s vm0 k0 m args below meth c T locs C hSi X N S
  exact ⟨u, o, h1, h2, h3, v, L, h4, ⟨⟨w, σ', hQ _ _ _ h5, h6⟩, h7⟩, h8⟩
/-! constants, loads, stores -/
theorem W.iconst (v : Int32) {i : Int} (hd : decode B.2.2.1 pc = .ok (.iconst i, 1)) (hp : pc + 1 = pc') (hv : Int32.ofInt i = v) (k : W l Z n0 B R Q cells slots σ pc' ls (.int v :: st)) : W l Z n0 B R Q cells slots σ pc ls st := by
  subst hp hv; exact W.of (fun p e s m args below meth c T locs C X t h => XS.iconst X.here C.1 rfl (hb C.2.1 hd) h) k
theorem W.bipush (v : Int32) {i : Int} (hd : decode B.2.2.1 pc = .ok (.bipush i, 2)) (hp : pc + 2 = pc') (hv : (Int8.ofInt i).toInt32 = v) (k : W l Z n0 B R Q cells slots σ pc' ls (.int v :: st)) : W l Z n0 B R Q cells slots σ pc ls st := by
  subst hp hv; exact W.of (fun p e s m args below meth c T locs C X t h => XS.bipush X.here C.1 rfl (hb C.2.1 hd) h) k
theorem W.sipush (v : Int32) {i : Int} (hd : decode B.2.2.1 pc = .ok (.sipush i, 3)) (hp : pc + 3 = pc') (hv : (Int16.ofInt i).toInt32 = v) (k : W l Z n0 B R Q cells slots σ pc' ls (.int v :: st)) : W l Z n0 B R Q cells slots σ pc ls st := by
  subst hp hv; exact W.of (fun p e s m args below meth c T locs C X t h => XS.sipush X.here C.1 rfl (hb C.2.1 hd) h) k
theorem W.lconst (v : Int64) {i : Fin 2} (hd : decode B.2.2.1 pc = .ok (.lconst i, 1)) (hp : pc + 1 = pc') (hv : Int64.ofNat i = v) (k : W l Z n0 B R Q cells slots σ pc' ls (.long v :: st)) : W l Z n0 B R Q cells slots σ pc ls st := by
  subst hp hv; exact W.of (fun p e s m args below meth c T locs C X t h => XT.lconst X.here C.1 rfl (hb C.2.1 hd) h) k
theorem W.aconstNull (hd : decode B.2.2.1 pc = .ok (.aconst_null, 1)) (hp : pc + 1 = pc') (k : W l Z n0 B R Q cells slots σ pc' ls (.null :: st)) : W l Z n0 B R Q cells slots σ pc ls st := by
  subst hp; exact W.of (fun p e s m args below meth c T locs C X t h => XS.aconstNull X.here C.1 rfl (hb C.2.1 hd) h) k
theorem W.ldcI {i : Nat} {v : Int32} (hd : decode B.2.2.1 pc = .ok (.ldc i, 2)) (w : (Jvm.Cond.constant B.1 i v).before a0 Z = true) (hp : pc + 2 = pc') (k : W l Z n0 B R Q cells slots σ pc' ls (.int v :: st)) : W l Z n0 B R Q cells slots σ pc ls st := by
  subst hp; exact W.of (fun p e s m args below meth c T locs C X t h => X.ldcI C.1 C.2.2.2.1 (mvT C.2.2.2.2.2.1 w) rfl (hb C.2.1 hd) h) k
theorem W.ldc2J {i : Nat} {v : Int64} (hd : decode B.2.2.1 pc = .ok (.ldc2_w i, 3)) (w : (Jvm.Cond.constantLong B.1 i v).before a0 Z = true) (hp : pc + 3 = pc') (k : W l Z n0 B R Q cells slots σ pc' ls (.long v :: st)) : W l Z n0 B R Q cells slots σ pc ls st := by
  subst hp; exact W.of (fun p e s m args below meth c T locs C X t h => X.ldc2J C.1 C.2.2.2.1 (mvT C.2.2.2.2.2.1 w) rfl (hb C.2.1 hd) h) k
theorem W.iloadN {i : Fin 4} {v : Int32} (hd : decode B.2.2.1 pc = .ok (.iload_n i, 1)) (hp : pc + 1 = pc') (hl : ls[i.val]? = some (.val (.int v))) (k : W l Z n0 B R Q cells slots σ pc' ls (.int v :: st)) : W l Z n0 B R Q cells slots σ pc ls st := by
  subst hp; exact W.of (fun p e s m args below meth c T locs C X t h => XS.iloadN X.here C.1 rfl (hb C.2.1 hd) hl h) k
theorem W.iload {i : Nat} {v : Int32} (hd : decode B.2.2.1 pc = .ok (.iload i, 2)) (hp : pc + 2 = pc') (hl : ls[i]? = some (.val (.int v))) (k : W l Z n0 B R Q cells slots σ pc' ls (.int v :: st)) : W l Z n0 B R Q cells slots σ pc ls st := by
  subst hp; exact W.of (fun p e s m args below meth c T locs C X t h => XS.iload X.here C.1 rfl (hb C.2.1 hd) hl h) k
theorem W.lloadN {i : Fin 4} {v : Int64} (hd : decode B.2.2.1 pc = .ok (.lload_n i, 1)) (hp : pc + 1 = pc') (hl : ls[i.val]? = some (.val (.long v))) (k : W l Z n0 B R Q cells slots σ pc' ls (.long v :: st)) : W l Z n0 B R Q cells slots σ pc ls st := by
  subst hp; exact W.of (fun p e s m args below meth c T locs C X t h => XT.lloadN X.here C.1 rfl (hb C.2.1 hd) hl h) k
theorem W.lload {i : Nat} {v : Int64} (hd : decode B.2.2.1 pc = .ok (.lload i, 2)) (hp : pc + 2 = pc') (hl : ls[i]? = some (.val (.long v))) (k : W l Z n0 B R Q cells slots σ pc' ls (.long v :: st)) : W l Z n0 B R Q cells slots σ pc ls st := by
  subst hp; exact W.of (fun p e s m args below meth c T locs C X t h => XT.lload X.here C.1 rfl (hb C.2.1 hd) hl h) k
theorem W.aloadN {i : Fin 4} {v : Value} (hd : decode B.2.2.1 pc = .ok (.aload_n i, 1)) (hp : pc + 1 = pc') (hl : ls[i.val]? = some (.val v)) (hv : v.isRef = true) (k : W l Z n0 B R Q cells slots σ pc' ls (v :: st)) : W l Z n0 B R Q cells slots σ pc ls st := by
  subst hp; exact W.of (fun p e s m args below meth c T locs C X t h => XS.aloadN X.here C.1 rfl (hb C.2.1 hd) hl hv h) k
theorem W.aload {i : Nat} {v : Value} (hd : decode B.2.2.1 pc = .ok (.aload i, 2)) (hp : pc + 2 = pc') (hl : ls[i]? = some (.val v)) (hv : v.isRef = true) (k : W l Z n0 B R Q cells slots σ pc' ls (v :: st)) : W l Z n0 B R Q cells slots σ pc ls st := by
  subst hp; exact W.of (fun p e s m args below meth c T locs C X t h => XS.aload X.here C.1 rfl (hb C.2.1 hd) hl hv h) k
theorem W.istoreN (ls' : Array Slot) {i : Fin 4} {v : Int32} (hd : decode B.2.2.1 pc = .ok (.istore_n i, 1)) (hp : pc + 1 = pc') (hl : storeLocals ls i.val (.int v) = some ls') (k : W l Z n0 B R Q cells slots σ pc' ls' st) : W l Z n0 B R Q cells slots σ pc ls (.int v :: st) := by
  subst hp; exact W.of (fun p e s m args below meth c T locs C X t h => XS.istoreN X.here C.1 rfl (hb C.2.1 hd) rfl hl h) k
theorem W.istore (ls' : Array Slot) {i : Nat} {v : Int32} (hd : decode B.2.2.1 pc = .ok (.istore i, 2)) (hp : pc + 2 = pc') (hl : storeLocals ls i (.int v) = some ls') (k : W l Z n0 B R Q cells slots σ pc' ls' st) : W l Z n0 B R Q cells slots σ pc ls (.int v :: st) := by
  subst hp; exact W.of (fun p e s m args below meth c T locs C X t h => XS.istore X.here C.1 rfl (hb C.2.1 hd) rfl hl h) k
theorem W.lstoreN (ls' : Array Slot) {i : Fin 4} {v : Int64} (hd : decode B.2.2.1 pc = .ok (.lstore_n i, 1)) (hp : pc + 1 = pc') (hl : storeLocals ls i.val (.long v) = some ls') (k : W l Z n0 B R Q cells slots σ pc' ls' st) : W l Z n0 B R Q cells slots σ pc ls (.long v :: st) := by
  subst hp; exact W.of (fun p e s m args below meth c T locs C X t h => XT.lstoreN X.here C.1 rfl (hb C.2.1 hd) rfl hl h) k
theorem W.lstore (ls' : Array Slot) {i : Nat} {v : Int64} (hd : decode B.2.2.1 pc = .ok (.lstore i, 2)) (hp : pc + 2 = pc') (hl : storeLocals ls i (.long v) = some ls') (k : W l Z n0 B R Q cells slots σ pc' ls' st) : W l Z n0 B R Q cells slots σ pc ls (.long v :: st) := by
  subst hp; exact W.of (fun p e s m args below meth c T locs C X t h => XT.lstore X.here C.1 rfl (hb C.2.1 hd) rfl hl h) k
theorem W.astoreN (ls' : Array Slot) {i : Fin 4} {v : Value} (hd : decode B.2.2.1 pc = .ok (.astore_n i, 1)) (hp : pc + 1 = pc') (hv : v.isRef = true) (hl : storeLocals ls i.val v = some ls') (k : W l Z n0 B R Q cells slots σ pc' ls' st) : W l Z n0 B R Q cells slots σ pc ls (v :: st) := by
  subst hp; exact W.of (fun p e s m args below meth c T locs C X t h => XS.astoreN X.here C.1 rfl (hb C.2.1 hd) rfl hv hl h) k
theorem W.astore (ls' : Array Slot) {i : Nat} {v : Value} (hd : decode B.2.2.1 pc = .ok (.astore i, 2)) (hp : pc + 2 = pc') (hv : v.isRef = true) (hl : storeLocals ls i v = some ls') (k : W l Z n0 B R Q cells slots σ pc' ls' st) : W l Z n0 B R Q cells slots σ pc ls (v :: st) := by
  subst hp; exact W.of (fun p e s m args below meth c T locs C X t h => XS.astore X.here C.1 rfl (hb C.2.1 hd) rfl hv hl h) k
theorem W.iinc (ls' : Array Slot) {i : Nat} {cst : Int} {x : Int32} (v y : Int32) (hd : decode B.2.2.1 pc = .ok (.iinc i cst, 3)) (hp : pc + 3 = pc') (hv : Int32.ofInt cst = v) (hx : ls[i]? = some (.val (.int x))) (hy : x + v = y) (hl : storeLocals ls i (.int y) = some ls') (k : W l Z n0 B R Q cells slots σ pc' ls' st) : W l Z n0 B R Q cells slots σ pc ls st := by
  subst hp hv hy; exact W.of (fun p e s m args below meth c T locs C X t h => XS.iinc X.here C.1 rfl (hb C.2.1 hd) hx hl h) k
theorem W.topJ {x : Int64} (y : Int64) (h : x = y) (k : W l Z n0 B R Q cells slots σ pc ls (.long y :: st)) : W l Z n0 B R Q cells slots σ pc ls (.long x :: st) := h ▸ k
theorem W.topI {x : Int32} (y : Int32) (h : x = y) (k : W l Z n0 B R Q cells slots σ pc ls (.int y :: st)) : W l Z n0 B R Q cells slots σ pc ls (.int x :: st) := h ▸ k
/-! arithmetic -/
theorem W.iadd {x : Int32} {y : Int32} (hd : decode B.2.2.1 pc = .ok (.iadd, 1)) (hp : pc + 1 = pc') (k : W l Z n0 B R Q cells slots σ pc' ls (.int (x + y) :: st)) : W l Z n0 B R Q cells slots σ pc ls (.int y :: .int x :: st) := by
  subst hp; exact W.of (fun p e s m args below meth c T locs C X t h => XS.iadd X.here C.1 rfl (hb C.2.1 hd) rfl h) k
theorem W.isub {x : Int32} {y : Int32} (hd : decode B.2.2.1 pc = .ok (.isub, 1)) (hp : pc + 1 = pc') (k : W l Z n0 B R Q cells slots σ pc' ls (.int (x - y) :: st)) : W l Z n0 B R Q cells slots σ pc ls (.int y :: .int x :: st) := by
  subst hp; exact W.of (fun p e s m args below meth c T locs C X t h => XS.isub X.here C.1 rfl (hb C.2.1 hd) rfl h) k
theorem W.imul {x : Int32} {y : Int32} (hd : decode B.2.2.1 pc = .ok (.imul, 1)) (hp : pc + 1 = pc') (k : W l Z n0 B R Q cells slots σ pc' ls (.int (x * y) :: st)) : W l Z n0 B R Q cells slots σ pc ls (.int y :: .int x :: st) := by
  subst hp; exact W.of (fun p e s m args below meth c T locs C X t h => XS.imul X.here C.1 rfl (hb C.2.1 hd) rfl h) k
theorem W.iand {x : Int32} {y : Int32} (hd : decode B.2.2.1 pc = .ok (.iand, 1)) (hp : pc + 1 = pc') (k : W l Z n0 B R Q cells slots σ pc' ls (.int (x &&& y) :: st)) : W l Z n0 B R Q cells slots σ pc ls (.int y :: .int x :: st) := by
  subst hp; exact W.of (fun p e s m args below meth c T locs C X t h => XS.iand X.here C.1 rfl (hb C.2.1 hd) rfl h) k
theorem W.ior {x : Int32} {y : Int32} (hd : decode B.2.2.1 pc = .ok (.ior, 1)) (hp : pc + 1 = pc') (k : W l Z n0 B R Q cells slots σ pc' ls (.int (x ||| y) :: st)) : W l Z n0 B R Q cells slots σ pc ls (.int y :: .int x :: st) := by
  subst hp; exact W.of (fun p e s m args below meth c T locs C X t h => XT.ior X.here C.1 rfl (hb C.2.1 hd) rfl h) k
theorem W.ixor {x : Int32} {y : Int32} (hd : decode B.2.2.1 pc = .ok (.ixor, 1)) (hp : pc + 1 = pc') (k : W l Z n0 B R Q cells slots σ pc' ls (.int (x ^^^ y) :: st)) : W l Z n0 B R Q cells slots σ pc ls (.int y :: .int x :: st) := by
  subst hp; exact W.of (fun p e s m args below meth c T locs C X t h => XT.ixor X.here C.1 rfl (hb C.2.1 hd) rfl h) k
theorem W.ishl {x : Int32} {y : Int32} (hd : decode B.2.2.1 pc = .ok (.ishl, 1)) (hp : pc + 1 = pc') (k : W l Z n0 B R Q cells slots σ pc' ls (.int (x <<< (y &&& 31)) :: st)) : W l Z n0 B R Q cells slots σ pc ls (.int y :: .int x :: st) := by
  subst hp; exact W.of (fun p e s m args below meth c T locs C X t h => XT.ishl X.here C.1 rfl (hb C.2.1 hd) rfl h) k
theorem W.ishr {x : Int32} {y : Int32} (hd : decode B.2.2.1 pc = .ok (.ishr, 1)) (hp : pc + 1 = pc') (k : W l Z n0 B R Q cells slots σ pc' ls (.int (x >>> (y &&& 31)) :: st)) : W l Z n0 B R Q cells slots σ pc ls (.int y :: .int x :: st) := by
  subst hp; exact W.of (fun p e s m args below meth c T locs C X t h => XT.ishr X.here C.1 rfl (hb C.2.1 hd) rfl h) k
theorem W.iushr {x : Int32} {y : Int32} (hd : decode B.2.2.1 pc = .ok (.iushr, 1)) (hp : pc + 1 = pc') (k : W l Z n0 B R Q cells slots σ pc' ls (.int (XT.ushr x y) :: st)) : W l Z n0 B R Q cells slots σ pc ls (.int y :: .int x :: st) := by
  subst hp; exact W.of (fun p e s m args below meth c T locs C X t h => XT.iushr X.here C.1 rfl (hb C.2.1 hd) rfl h) k
theorem W.ladd {x : Int64} {y : Int64} (hd : decode B.2.2.1 pc = .ok (.ladd, 1)) (hp : pc + 1 = pc') (k : W l Z n0 B R Q cells slots σ pc' ls (.long (x + y) :: st)) : W l Z n0 B R Q cells slots σ pc ls (.long y :: .long x :: st) := by
  subst hp; exact W.of (fun p e s m args below meth c T locs C X t h => XT.ladd X.here C.1 rfl (hb C.2.1 hd) rfl h) k
theorem W.lsub {x : Int64} {y : Int64} (hd : decode B.2.2.1 pc = .ok (.lsub, 1)) (hp : pc + 1 = pc') (k : W l Z n0 B R Q cells slots σ pc' ls (.long (x - y) :: st)) : W l Z n0 B R Q cells slots σ pc ls (.long y :: .long x :: st) := by
  subst hp; exact W.of (fun p e s m args below meth c T locs C X t h => XT.lsub X.here C.1 rfl (hb C.2.1 hd) rfl h) k
theorem W.lmul {x : Int64} {y : Int64} (hd : decode B.2.2.1 pc = .ok (.lmul, 1)) (hp : pc + 1 = pc') (k : W l Z n0 B R Q cells slots σ pc' ls (.long (x * y) :: st)) : W l Z n0 B R Q cells slots σ pc ls (.long y :: .long x :: st) := by
  subst hp; exact W.of (fun p e s m args below meth c T locs C X t h => XT.lmul X.here C.1 rfl (hb C.2.1 hd) rfl h) k
theorem W.land {x : Int64} {y : Int64} (hd : decode B.2.2.1 pc = .ok (.land, 1)) (hp : pc + 1 = pc') (k : W l Z n0 B R Q cells slots σ pc' ls (.long (x &&& y) :: st)) : W l Z n0 B R Q cells slots σ pc ls (.long y :: .long x :: st) := by
  subst hp; exact W.of (fun p e s m args below meth c T locs C X t h => XT.land X.here C.1 rfl (hb C.2.1 hd) rfl h) k
theorem W.lor {x : Int64} {y : Int64} (hd : decode B.2.2.1 pc = .ok (.lor, 1)) (hp : pc + 1 = pc') (k : W l Z n0 B R Q cells slots σ pc' ls (.long (x ||| y) :: st)) : W l Z n0 B R Q cells slots σ pc ls (.long y :: .long x :: st) := by
  subst hp; exact W.of (fun p e s m args below meth c T locs C X t h => XT.lor X.here C.1 rfl (hb C.2.1 hd) rfl h) k
theorem W.lxor {x : Int64} {y : Int64} (hd : decode B.2.2.1 pc = .ok (.lxor, 1)) (hp : pc + 1 = pc') (k : W l Z n0 B R Q cells slots σ pc' ls (.long (x ^^^ y) :: st)) : W l Z n0 B R Q cells slots σ pc ls (.long y :: .long x :: st) := by
  subst hp; exact W.of (fun p e s m args below meth c T locs C X t h => XT.lxor X.here C.1 rfl (hb C.2.1 hd) rfl h) k
theorem W.lushr {x : Int64} {y : Int32} (hd : decode B.2.2.1 pc = .ok (.lushr, 1)) (hp : pc + 1 = pc') (k : W l Z n0 B R Q cells slots σ pc' ls (.long (XT.ushrL x y) :: st)) : W l Z n0 B R Q cells slots σ pc ls (.int y :: .long x :: st) := by
  subst hp; exact W.of (fun p e s m args below meth c T locs C X t h => XT.lushr X.here C.1 rfl (hb C.2.1 hd) rfl h) k
theorem W.lshl {x : Int64} {y : Int32} (hd : decode B.2.2.1 pc = .ok (.lshl, 1)) (hp : pc + 1 = pc') (k : W l Z n0 B R Q cells slots σ pc' ls (.long (x <<< (y.toInt64 &&& 63)) :: st)) : W l Z n0 B R Q cells slots σ pc ls (.int y :: .long x :: st) := by
  subst hp; exact W.of (fun p e s m args below meth c T locs C X t h => XT.lshl X.here C.1 rfl (hb C.2.1 hd) rfl h) k
theorem W.lcmp {x : Int64} {y : Int64} (hd : decode B.2.2.1 pc = .ok (.lcmp, 1)) (hp : pc + 1 = pc') (k : W l Z n0 B R Q cells slots σ pc' ls (.int (XT.cmpL x y) :: st)) : W l Z n0 B R Q cells slots σ pc ls (.long y :: .long x :: st) := by
  subst hp; exact W.of (fun p e s m args below meth c T locs C X t h => XT.lcmp X.here C.1 rfl (hb C.2.1 hd) rfl h) k
theorem W.i2l {x : Int32} (hd : decode B.2.2.1 pc = .ok (.i2l, 1)) (hp : pc + 1 = pc') (k : W l Z n0 B R Q cells slots σ pc' ls (.long (x.toInt64) :: st)) : W l Z n0 B R Q cells slots σ pc ls (.int x :: st) := by
  subst hp; exact W.of (fun p e s m args below meth c T locs C X t h => XT.i2l X.here C.1 rfl (hb C.2.1 hd) rfl h) k
theorem W.l2i {x : Int64} (hd : decode B.2.2.1 pc = .ok (.l2i, 1)) (hp : pc + 1 = pc') (k : W l Z n0 B R Q cells slots σ pc' ls (.int (x.toInt32) :: st)) : W l Z n0 B R Q cells slots σ pc ls (.long x :: st) := by
  subst hp; exact W.of (fun p e s m args below meth c T locs C X t h => XT.l2i X.here C.1 rfl (hb C.2.1 hd) rfl h) k
theorem W.i2b {x : Int32} (hd : decode B.2.2.1 pc = .ok (.i2b, 1)) (hp : pc + 1 = pc') (k : W l Z n0 B R Q cells slots σ pc' ls (.int (x.toInt8.toInt32) :: st)) : W l Z n0 B R Q cells slots σ pc ls (.int x :: st) := by
  subst hp; exact W.of (fun p e s m args below meth c T locs C X t h => XT.i2b X.here C.1 rfl (hb C.2.1 hd) rfl h) k
theorem W.i2c {x : Int32} (hd : decode B.2.2.1 pc = .ok (.i2c, 1)) (hp : pc + 1 = pc') (k : W l Z n0 B R Q cells slots σ pc' ls (.int (x.toUInt32.toUInt16.toUInt32.toInt32) :: st)) : W l Z n0 B R Q cells slots σ pc ls (.int x :: st) := by
  subst hp; exact W.of (fun p e s m args below meth c T locs C X t h => XT.i2c X.here C.1 rfl (hb C.2.1 hd) rfl h) k
theorem W.idiv {x y : Int32} (hd : decode B.2.2.1 pc = .ok (.idiv, 1)) (hp : pc + 1 = pc') (hy : y ≠ 0) (k : W l Z n0 B R Q cells slots σ pc' ls (.int (x / y) :: st)) : W l Z n0 B R Q cells slots σ pc ls (.int y :: .int x :: st) := by
  subst hp; exact W.of (fun p e s m args below meth c T locs C X t h => XS.idiv X.here C.1 rfl (hb C.2.1 hd) rfl hy h) k
theorem W.irem {x y : Int32} (hd : decode B.2.2.1 pc = .ok (.irem, 1)) (hp : pc + 1 = pc') (hy : y ≠ 0) (k : W l Z n0 B R Q cells slots σ pc' ls (.int (x % y) :: st)) : W l Z n0 B R Q cells slots σ pc ls (.int y :: .int x :: st) := by
  subst hp; exact W.of (fun p e s m args below meth c T locs C X t h => iremM X C.1 rfl (hb C.2.1 hd) rfl hy h) k
theorem W.dup {x : Value} (hd : decode B.2.2.1 pc = .ok (.dup, 1)) (hp : pc + 1 = pc') (hc : x.category = 1) (k : W l Z n0 B R Q cells slots σ pc' ls (x :: x :: st)) : W l Z n0 B R Q cells slots σ pc ls (x :: st) := by
  subst hp; exact W.of (fun p e s m args below meth c T locs C X t h => XS.dup X.here C.1 rfl (hb C.2.1 hd) rfl hc h) k
theorem W.pop {x : Value} (hd : decode B.2.2.1 pc = .ok (.pop, 1)) (hp : pc + 1 = pc') (hc : x.category = 1) (k : W l Z n0 B R Q cells slots σ pc' ls st) : W l Z n0 B R Q cells slots σ pc ls (x :: st) := by
  subst hp; exact W.of (fun p e s m args below meth c T locs C X t h => XT.pop X.here C.1 rfl (hb C.2.1 hd) rfl hc h) k
theorem W.dupX1 {x y : Value} (hd : decode B.2.2.1 pc = .ok (.dup_x1, 1)) (hp : pc + 1 = pc') (hc : x.category = 1) (hc' : y.category = 1) (k : W l Z n0 B R Q cells slots σ pc' ls (x :: y :: x :: st)) : W l Z n0 B R Q cells slots σ pc ls (x :: y :: st) := by
  subst hp; exact W.of (fun p e s m args below meth c T locs C X t h => XT.dupX1 X.here C.1 rfl (hb C.2.1 hd) rfl hc hc' h) k
/-! branches -/
theorem W.goto {o : Int} (hd : decode B.2.2.1 pc = .ok (.goto o, 3)) (ho : 0 ≤ (pc : Int) + o) (hp : ((pc : Int) + o).toNat = pc') (k : W l Z n0 B R Q cells slots σ pc' ls st) : W l Z n0 B R Q cells slots σ pc ls st :=
  W.of (fun p e s m args below meth c T locs C X t h => XS.goto X.here C.1 rfl rfl (hb C.2.1 hd) ho hp h) k
theorem W.ifY {cd : ClassFile.Cond} {x : Int32} {o : Int} (hd : decode B.2.2.1 pc = .ok (.ifCond cd o, 3)) (hc : ifCond.holds cd x = true) (ho : 0 ≤ (pc : Int) + o) (hp : ((pc : Int) + o).toNat = pc') (k : W l Z n0 B R Q cells slots σ pc' ls st) : W l Z n0 B R Q cells slots σ pc ls (.int x :: st) :=
  W.of (fun p e s m args below meth c T locs C X t h => XS.ifYes X.here C.1 rfl rfl (hb C.2.1 hd) rfl hc ho hp h) k
theorem W.ifN {cd : ClassFile.Cond} {x : Int32} {o : Int} (hd : decode B.2.2.1 pc = .ok (.ifCond cd o, 3)) (hc : ifCond.holds cd x = false) (hp : pc + 3 = pc') (k : W l Z n0 B R Q cells slots σ pc' ls st) : W l Z n0 B R Q cells slots σ pc ls (.int x :: st) := by
  subst hp; exact W.of (fun p e s m args below meth c T locs C X t h => XS.ifNo X.here C.1 rfl (hb C.2.1 hd) rfl hc h) k
theorem W.icmpY {cd : ClassFile.Cond} {x y : Int32} {o : Int} (hd : decode B.2.2.1 pc = .ok (.if_icmp cd o, 3)) (hc : if_icmp.holds cd x y = true) (ho : 0 ≤ (pc : Int) + o) (hp : ((pc : Int) + o).toNat = pc') (k : W l Z n0 B R Q cells slots σ pc' ls st) : W l Z n0 B R Q cells slots σ pc ls (.int y :: .int x :: st) :=
  W.of (fun p e s m args below meth c T locs C X t h => XS.icmpYes X.here C.1 rfl rfl (hb C.2.1 hd) rfl hc ho hp h) k
theorem W.icmpN {cd : ClassFile.Cond} {x y : Int32} {o : Int} (hd : decode B.2.2.1 pc = .ok (.if_icmp cd o, 3)) (hc : if_icmp.holds cd x y = false) (hp : pc + 3 = pc') (k : W l Z n0 B R Q cells slots σ pc' ls st) : W l Z n0 B R Q cells slots σ pc ls (.int y :: .int x :: st) := by
  subst hp; exact W.of (fun p e s m args below meth c T locs C X t h => XS.icmpNo X.here C.1 rfl (hb C.2.1 hd) rfl hc h) k
theorem W.acmpY {cd : ClassFile.ACond} {x y : Value} {o : Int} (hd : decode B.2.2.1 pc = .ok (.if_acmp cd o, 3)) (hx : x.isRef = true) (hy : y.isRef = true) (hc : XT.acmp cd x y = true) (ho : 0 ≤ (pc : Int) + o) (hp : ((pc : Int) + o).toNat = pc') (k : W l Z n0 B R Q cells slots σ pc' ls st) : W l Z n0 B R Q cells slots σ pc ls (y :: x :: st) :=
  W.of (fun p e s m args below meth c T locs C X t h => XT.acmpYes X.here C.1 rfl rfl (hb C.2.1 hd) rfl hx hy hc ho hp h) k
theorem W.acmpN {cd : ClassFile.ACond} {x y : Value} {o : Int} (hd : decode B.2.2.1 pc = .ok (.if_acmp cd o, 3)) (hx : x.isRef = true) (hy : y.isRef = true) (hc : XT.acmp cd x y = false) (hp : pc + 3 = pc') (k : W l Z n0 B R Q cells slots σ pc' ls st) : W l Z n0 B R Q cells slots σ pc ls (y :: x :: st) := by
  subst hp; exact W.of (fun p e s m args below meth c T locs C X t h => XT.acmpNo X.here C.1 rfl (hb C.2.1 hd) rfl hx hy hc h) k
theorem W.nullY {o : Int} (hd : decode B.2.2.1 pc = .ok (.ifnull o, 3)) (ho : 0 ≤ (pc : Int) + o) (hp : ((pc : Int) + o).toNat = pc') (k : W l Z n0 B R Q cells slots σ pc' ls st) : W l Z n0 B R Q cells slots σ pc ls (.null :: st) :=
  W.of (fun p e s m args below meth c T locs C X t h => XS.ifnullYes X.here C.1 rfl rfl (hb C.2.1 hd) rfl ho hp h) k
theorem W.nullN {a : Addr} {o : Int} (hd : decode B.2.2.1 pc = .ok (.ifnull o, 3)) (hp : pc + 3 = pc') (k : W l Z n0 B R Q cells slots σ pc' ls st) : W l Z n0 B R Q cells slots σ pc ls (.ref a :: st) := by
  subst hp; exact W.of (fun p e s m args below meth c T locs C X t h => XS.ifnullNo X.here C.1 rfl (hb C.2.1 hd) rfl h) k
theorem W.nonnullY {a : Addr} {o : Int} (hd : decode B.2.2.1 pc = .ok (.ifnonnull o, 3)) (ho : 0 ≤ (pc : Int) + o) (hp : ((pc : Int) + o).toNat = pc') (k : W l Z n0 B R Q cells slots σ pc' ls st) : W l Z n0 B R Q cells slots σ pc ls (.ref a :: st) :=
  W.of (fun p e s m args below meth c T locs C X t h => XT.ifnonnullYes X.here C.1 rfl rfl (hb C.2.1 hd) rfl ho hp h) k
theorem W.nonnullN {o : Int} (hd : decode B.2.2.1 pc = .ok (.ifnonnull o, 3)) (hp : pc + 3 = pc') (k : W l Z n0 B R Q cells slots σ pc' ls st) : W l Z n0 B R Q cells slots σ pc ls (.null :: st) := by
  subst hp; exact W.of (fun p e s m args below meth c T locs C X t h => XT.ifnonnullNo X.here C.1 rfl (hb C.2.1 hd) rfl h) k
/-! returns -/
theorem W.fin {v : Option Value} (hv : B.2.2.2.2.1 = none → v = none) (hc : cells ≤ R.cells) (hs : slots ≤ R.slots) (hQ : Q B.2.2.2.2.2 v σ)
    (hstep : ∀ (p : Program) (e : Env) (s : State) (m : MethodId) (args : Array Value) (below : List Frame) (meth : Method) (c : Code) (T : State) (locs : List Loc), Cx p s m meth c Z B → Stand p l e R s m args below meth c T locs cells slots → ∀ fs, (∀ (f : JFrame) (acts : List Action), f.method = m → f.locked = none → f.entered = [] → (doReturn e (T.setTop f) acts v).1 = T.setFrames fs) → Steps p.tables e below (T.setTop (mkF m pc ls st)) (T.setFrames fs)) :
    W l Z n0 B R Q cells slots σ pc ls st := by
  intro p e s vm0 k0 m args below meth c T locs C hSi X N S
  obtain ⟨fs, hr, hrun, hended, hE1, hE2, hE3, hE4⟩ := X.leaveW hSi S.1.2 (v := v) (fun h => hv (C.2.2.2.2.2.2.1.symm.trans h)) C.2.2.2.2.2.2.2.1
  exact ⟨_, _, hstep p e (s.setVm vm0) m args below meth c T locs C X fs hr, hrun, hended, v, locs, rfl, ⟨⟨_, σ, hQ, C.2.2.2.2.2.2.2.2.warm X.warmed, S.low (Nat.zero_le _)⟩, N⟩, hE1, hE2, hE3, hE4.mono hc hs⟩
theorem W.retN {t : FieldType} {z : Int32} (z' : Int32) (hd : decode B.2.2.1 pc = .ok (.ireturn, 1)) (hr : B.2.2.2.2.1 = some t) (ht : t = .boolean ∨ t = .byte ∨ t = .char ∨ t = .short) (hz : nar t z = z') (hc : cells ≤ R.cells) (hs : slots ≤ R.slots) (hQ : Q B.2.2.2.2.2 (some (.int z')) σ) : W l Z n0 B R Q cells slots σ pc ls (.int z :: st) := by
  subst hz; exact W.fin (fun h => by rw [hr] at h; cases h) hc hs hQ (fun p e s m args below meth c T locs C X fs h => RoadKit.retN X C.1 (C.2.2.2.2.2.2.1.trans hr) ht (hb C.2.1 hd) h)
theorem W.retI {z : Int32} (hd : decode B.2.2.1 pc = .ok (.ireturn, 1)) (hr : B.2.2.2.2.1 = some .int) (hc : cells ≤ R.cells) (hs : slots ≤ R.slots) (hQ : Q B.2.2.2.2.2 (some (.int z)) σ) : W l Z n0 B R Q cells slots σ pc ls (.int z :: st) :=
  W.fin (fun h => by rw [hr] at h; cases h) hc hs hQ (fun p e s m args below meth c T locs C X fs h => retOut X C.1 (t := .int) (C.2.2.2.2.2.2.1.trans hr) rfl (Or.inl ⟨rfl, Or.inl rfl, _, rfl⟩) (hb C.2.1 hd) h)
theorem W.retJ {z : Int64} (hd : decode B.2.2.1 pc = .ok (.lreturn, 1)) (hr : B.2.2.2.2.1 = some .long) (hc : cells ≤ R.cells) (hs : slots ≤ R.slots) (hQ : Q B.2.2.2.2.2 (some (.long z)) σ) : W l Z n0 B R Q cells slots σ pc ls (.long z :: st) :=
  W.fin (fun h => by rw [hr] at h; cases h) hc hs hQ (fun p e s m args below meth c T locs C X fs h => retOut X C.1 (t := .long) (C.2.2.2.2.2.2.1.trans hr) rfl (Or.inr (Or.inl ⟨rfl, rfl, _, rfl⟩)) (hb C.2.1 hd) h)
theorem W.retA {t : FieldType} {v : Value} (hd : decode B.2.2.1 pc = .ok (.areturn, 1)) (hr : B.2.2.2.2.1 = some t) (ht : t.isReference = true) (hn : narrow t v = v) (hv : v.isRef = true) (hc : cells ≤ R.cells) (hs : slots ≤ R.slots) (hQ : Q B.2.2.2.2.2 (some v) σ) : W l Z n0 B R Q cells slots σ pc ls (v :: st) :=
  W.fin (fun h => by rw [hr] at h; cases h) hc hs hQ (fun p e s m args below meth c T locs C X fs h => retOut X C.1 (t := t) (C.2.2.2.2.2.2.1.trans hr) hn (Or.inr (Or.inr (Or.inr (Or.inr ⟨rfl, ht, hv⟩)))) (hb C.2.1 hd) h)
theorem W.retV (hd : decode B.2.2.1 pc = .ok (.return_, 1)) (hr : B.2.2.2.2.1 = none) (hc : cells ≤ R.cells) (hs : slots ≤ R.slots) (hQ : Q B.2.2.2.2.2 none σ) : W l Z n0 B R Q cells slots σ pc ls [] :=
  W.fin (fun _ => rfl) hc hs hQ (fun p e s m args below meth c T locs C X fs h => X.returnOut C.1 (C.2.2.2.2.2.2.1.trans hr) (hb C.2.1 hd) h)
/-! calls -/
theorem W.back {u : Lst} {y : MethodName} {bytes : ByteArray} {maxL : Nat} {ret : Option FieldType} {rm : Room} {as : List Value} {Qc : Lst → Option Value → Asn → Prop} {len Wd : Nat} (hS : Sp l Z n0 u y bytes maxL ret rm as σ Qc) {h : Heap} {k0 : Nat} (hsep : Sep Z n0 k0 h σ)
    {p : Program} {e : Env} {below : List Frame} {s : State} {args : Array Value} (hZ : Z.Warmed39 s.vm) (hV : VI Z u s.vm) (wc : (Jvm.Cond.code y bytes maxL ret).before a0 Z = true) (wz : (Jvm.Cond.initialized y.cls).before a0 Z = true) (hf : rm.frames + 1 ≤ R.frames) (hl : Wd + (maxL + 11) + rm.locals ≤ R.locals) :
    BackS l R p e below s args y len Wd (fun A a => a = as.toArray ∧ A.U.heap = h ∧ A.cells + rm.cells ≤ R.cells ∧ A.slots + rm.slots ≤ R.slots)
      (fun A _ v B => ∃ L, ((∃ w σ', Qc w v σ' ∧ VI Z w B.U.vm ∧ Sep Z n0 0 B.U.heap σ') ∧ Fr n0 L) ∧ B.locs = A.locs ++ L ∧ B.cells = A.cells + rm.cells ∧ B.slots = A.slots + rm.slots) :=
  BackS.of_freeW (bytes := bytes) (maxL := maxL) (ret := ret) (E := fun _ _ o t L k n => k = rm.cells ∧ n = rm.slots ∧ ∃ v, o = .returned v ∧ (∃ w σ', Qc w v σ' ∧ VI Z w t.vm ∧ Sep Z n0 0 t.heap σ') ∧ Fr n0 L) (hS [] h (hsep.low (Nat.zero_le _))) hf hl
    (fun m meth c A a Y hp => by
      have hU : Z.Warmed39 A.U.vm := State.Warmed39.trans hZ Y.warmed.wide
      exact ⟨by show (Jvm.Cond.and _ .tt).before a A.U = true; rw [Cond.before_and, mvT hU wc]; rfl, mvT hU wc, mvT hU wz, hp.2.2.1, hp.2.2.2⟩)
    (fun m meth c A a g mk Y hp => ⟨hp.1, State.Warmed39.trans hZ Y.warmed.wide, hp.2.1, hV.warm Y.warmed⟩) (fun _ _ _ _ _ _ _ _ _ => trivial)
    (fun _ _ _ _ ⟨v, L, q1, q2, q3⟩ => ⟨L, _, _, q3, rfl, rfl, v, q1, q2⟩)
    (fun m meth c A a g mk v t L k n Y hp _ _ ⟨z1, z2, v', z3, z4⟩ => by cases z3; subst z1 z2; exact ⟨L, z4, rfl, rfl, rfl⟩)
/-- behind a call: the base is the callee's end -/
theorem W.behind {w : Lst} {p : Program} {e : Env} {s : State} {vm0 : Vm} {k0 : Nat} {m : MethodId} {args : Array Value} {below : List Frame} {meth : Method} {c : Code} {T U : State} {locs : List Loc} {B' : Bdy} (hB : B' = B.at w) (C : Cx p (s.setVm vm0) m meth c Z B) (hSi : s.Since vm0 k0) (hk : k0 ≤ T.heap.size)
    (X : Stand p l e R ((s.setVm vm0).setVm U.vm) m args below meth c U locs cells slots) (h2 : (s.setVm vm0).Since U.vm U.heap.size) (hg : T.heap.size ≤ U.heap.size) (N : Fr n0 locs) (hV : VI Z w U.vm) (S : Sep Z n0 0 U.heap σ) (k : W l Z n0 B' R Q cells slots σ pc ls st) :
    ∃ (u : State) (o : Outcome), Steps p.tables e below (U.setTop (mkF m pc ls st)) u ∧ u.status = .running ∧ Ended u below o ∧
      ∃ (v : Option Value) (L : List Loc), o = .returned v ∧ ((∃ w σ', Q w v σ' ∧ VI Z w u.vm ∧ Sep Z n0 0 u.heap σ') ∧ Fr n0 L) ∧ ReturnedEndW s o u L R.cells R.slots := by
  subst hB
  obtain ⟨hx, hby, hml, hown, hnm, hZ, hrt, hlk, -⟩ := C
  obtain ⟨X9, hS9, hZ9, hown9⟩ := rebS (Z := Z) (n1 := T.heap.size) hSi hk X h2 hg hZ hown
  exact k p e s U.vm U.heap.size m args below meth c U locs ⟨hx, hby, hml, hown9, hnm, hZ9, hrt, hlk, hV⟩ hS9 X9 N (S.low (Nat.le_refl _))
theorem W.callS {y : MethodName} {bytes : ByteArray} {maxL : Nat} {ret : Option FieldType} {rm : Room} {as : List Value} {Qc : Lst → Option Value → Asn → Prop} {i : Nat} {sg : MethodDescriptor} (hS : Sp l Z n0 B.2.2.2.2.2 y bytes maxL ret rm as σ Qc)
    (hd : decode B.2.2.1 pc = .ok (.invokestatic i, 3)) (w1 : (Jvm.Cond.methodLink B.1 i y).before a0 Z = true) (w2 : (Jvm.Cond.static y).before a0 Z = true) (wz : (Jvm.Cond.initialized y.cls).before a0 Z = true) (wc : (Jvm.Cond.code y bytes maxL ret).before a0 Z = true)
    (hy : y.cls ≠ "java/lang/invoke/MethodHandle" ∧ y.cls ≠ "java/lang/invoke/VarHandle") (hsg : parseMethodDescriptor y.desc = some sg) (hln : as.length = sg.parameters.length) (hst : st = as.reverse ++ rest)
    (hf : rm.frames + 1 ≤ R.frames) (hl : (rest.map fun v => v.category).sum + (maxL + 11) + rm.locals ≤ R.locals) (hc : cells + rm.cells ≤ R.cells) (hs : slots + rm.slots ≤ R.slots) (hsz : ls.size = B.2.2.2.1) (hp : pc + 3 = pc')
    (k : ∀ w v σ', Qc w v σ' → W l Z n0 (B.at w) R Q (cells + rm.cells) (slots + rm.slots) σ' pc' ls (v.toList ++ rest)) : W l Z n0 B R Q cells slots σ pc ls st := by
  subst hp
  intro p e s vm0 k0 m args below meth c T locs C hSi X N S
  obtain ⟨hx, hby, hml, hown, hnm, hZ, hrt, hlk, hV⟩ := id C
  obtain ⟨v, _, ⟨T8, L8, k8, n8⟩, -, X8, hS2, hg8, ⟨Lc8, ⟨⟨w, σ', hQ8, hV8, hS8⟩, hF8⟩, l8, y8, z8⟩, st8⟩ := RoadKit.callSS X hx (y := y) hown (mvT hZ w1) (mvT hZ w2) (mvT hZ wz) (mvT hZ wc) hy (W.back (a0 := a0) hS S hZ hV wc wz hf hl) (g := (mkF m pc ls st)) rfl (by rw [hml]; exact hsz) (argsL := as) (rest := rest) (lenOf hsg hln) hst (by show 2 * 0 + _ ≤ _; omega) (hb hby hd) (fun _ _ => ⟨rfl, rfl, hc, hs⟩)
  dsimp only [Pt.U, Pt.locs, Pt.cells, Pt.slots] at X8 l8 y8 z8 st8 hS8 hV8 hS2 hg8
  subst l8 y8 z8
  obtain ⟨u, o, h1, h2⟩ := W.behind (B := B) rfl C hSi S.1.2 X8 hS2 hg8 (N.app hF8) hV8 hS8 (k w v σ' hQ8)
  exact ⟨u, o, st8.trans h1, h2⟩
end Rules
/-! OWN FRAMEWORK, part 2: the heap -/
def ObjP (Z : State) (C : String) (fs : List (String × String × String × Value)) (c : Cell) : Prop :=
  Exa Z #[c] 0 C ∧ (∀ f ∈ fs, Fld Z #[c] 0 f.1 f.2.1 f.2.2.1 f.2.2.2) ∧ fs.Pairwise (fun f f' => RoadKit.slotOf Z f.1 f.2.1 f.2.2.1 ≠ RoadKit.slotOf Z f'.1 f'.2.1 f'.2.2.1)
def IA (Z : State) (ty : FieldType) (xs : List Int32) (c : Cell) : Prop := Z.isArrayOf c ty ∧ c.vm ≠ .unknown ∧ c.slots.toList = xs.map Value.int
def LA (Z : State) (xs : List Int64) (c : Cell) : Prop := Z.isArrayOf c .long ∧ c.vm ≠ .unknown ∧ c.slots.toList = xs.map Value.long
def LaidL (Z : State) (a0 : Array Value) (C : String) : List (String × String × String × Value) → Prop
  | [] => True
  | f :: fs => (Laid Z a0 C f.1 f.2.1 f.2.2.1 ∧ ∃ ty, parseFieldDescriptor f.2.2.1 = some ty ∧ f.2.2.2 = defaultValue ty) ∧ LaidL Z a0 C fs
section Heap
variable {Z : State} {n0 k0 : Nat} {h h' : Heap} {σ σ' : Asn} {a b : Addr} {P P' : Cell → Prop} {i j : Nat} {c : Cell} {C n d : String} {v : Value} {sl : Nat}
theorem fld_out (F : Fld Z #[c] 0 C n d v) (q : h[a]? = some c) : Fld Z h a C n d v := by
  obtain ⟨cell, cf, k, i, f, h1, r⟩ := F
  obtain rfl : c = cell := by simpa using h1
  exact ⟨c, cf, k, i, f, q, r⟩
theorem fld_in (F : Fld Z h a C n d v) (q : h[a]? = some c) : Fld Z #[c] 0 C n d v := by
  obtain ⟨cell, cf, k, i, f, h1, r⟩ := F
  cases q.symm.trans h1
  exact ⟨c, cf, k, i, f, rfl, r⟩
theorem exa_out (F : Exa Z #[c] 0 C) (q : h[a]? = some c) : Exa Z h a C := by
  obtain ⟨cell, k, h1, r⟩ := F
  obtain rfl : c = cell := by simpa using h1
  exact ⟨c, k, q, r⟩
theorem exa_in (F : Exa Z h a C) (q : h[a]? = some c) : Exa Z #[c] 0 C := by
  obtain ⟨cell, k, h1, r⟩ := F
  cases q.symm.trans h1
  exact ⟨c, k, rfl, r⟩
theorem Sep.get (S : Sep Z n0 k0 h σ) (hi : σ[i]? = some (a, P)) : n0 ≤ a ∧ ∃ c : Cell, h[a]? = some c ∧ P c := S.2.1 _ (List.mem_of_getElem? hi)
theorem Sep.ne (S : Sep Z n0 k0 h σ) (hi : σ[i]? = some (a, P)) (hj : σ[j]? = some (b, P')) (hij : i ≠ j) : a ≠ b := by
  have hi' : (σ.map (fun x => x.1))[i]? = some a := by simp [hi]
  have hj' : (σ.map (fun x => x.1))[j]? = some b := by simp [hj]
  obtain ⟨l1, e1⟩ := List.getElem?_eq_some_iff.mp hi'
  obtain ⟨l2, e2⟩ := List.getElem?_eq_some_iff.mp hj'
  have hN := List.pairwise_iff_getElem.mp S.2.2
  rcases Nat.lt_or_gt_of_ne hij with q | q
  · have := hN i j l1 l2 q; rwa [e1, e2] at this
  · have := hN j i l2 l1 q; rw [e1, e2] at this; exact fun z => this z.symm
theorem Sep.lt (S : Sep Z n0 k0 h σ) (hi : σ[i]? = some (a, P)) : a < h.size := by
  obtain ⟨-, c, hc, -⟩ := S.get hi
  exact (Array.getElem?_eq_some_iff.mp hc).1
theorem Sep.set (S : Sep Z n0 k0 h σ) (hi : σ[i]? = some (a, P)) (hW : Wr h h' a sl v) (hP : ∀ c : Cell, h[a]? = some c → P c → P' (c.setSlot sl v)) : Sep Z n0 k0 h' (σ.set i (a, P')) := by
  obtain ⟨hn, c, hc, hp⟩ := S.get hi
  refine ⟨S.1.wr hW hn, ?_, ?_⟩
  · intro x hx
    obtain ⟨j, hj⟩ := List.mem_iff_getElem?.mp hx
    by_cases hij : i = j
    · subst hij
      have hlt := (List.getElem?_eq_some_iff.mp hi).1
      rw [List.getElem?_set_self hlt] at hj
      cases hj
      obtain ⟨c', e1, -, -, -, -, -, e7⟩ := wr_at hW hc
      exact ⟨hn, c.setSlot sl v, by rw [← (e7 rfl).1]; exact e1, hP c hc hp⟩
    · rw [List.getElem?_set_ne hij] at hj
      obtain ⟨xb, xP⟩ := x
      obtain ⟨hn2, c2, hc2, hp2⟩ := S.get hj
      have hne := S.ne hj hi (Ne.symm hij)
      obtain ⟨c', e1, -, -, -, e5, -⟩ := wr_at hW hc2
      exact ⟨hn2, c2, by rw [← e5 hne]; exact e1, hp2⟩
  · have e : (σ.set i (a, P')).map (fun x => x.1) = σ.map (fun x => x.1) := by
      apply List.ext_getElem?
      intro j
      simp only [List.getElem?_map]
      by_cases hij : i = j
      · subst hij
        rw [List.getElem?_set_self (List.getElem?_eq_some_iff.mp hi).1, hi]; rfl
      · rw [List.getElem?_set_ne hij]
    rw [e]; exact S.2.2
theorem Sep.ext (S : Sep Z n0 k0 h σ) (E : Ext h h') : Sep Z n0 k0 h' σ := ⟨S.1.ext E, fun x hx => by obtain ⟨q1, c, q2, q3⟩ := S.2.1 x hx; exact ⟨q1, c, E.2 _ _ q2, q3⟩, S.2.2⟩
theorem Sep.size (S : Sep Z n0 k0 h σ) : n0 ≤ h.size := by rw [← S.1.1.1]; exact S.1.1.2.1
theorem Sep.new (S : Sep Z n0 k0 h σ) (E : Ext h h') (hc : h'[h.size]? = some c) (hP : P c) : Sep Z n0 k0 h' ((h.size, P) :: σ) := by
  refine ⟨S.1.ext E, fun x hx => ?_, ?_⟩
  · rcases List.mem_cons.mp hx with rfl | q
    · exact ⟨S.size, c, hc, hP⟩
    · exact (S.ext E).2.1 x q
  · rw [List.map_cons, List.nodup_cons]
    refine ⟨fun q => ?_, S.2.2⟩
    obtain ⟨x, hx, e⟩ := List.mem_map.mp q
    obtain ⟨-, c', hc', -⟩ := S.2.1 x hx
    exact absurd e (Nat.ne_of_lt (Array.getElem?_eq_some_iff.mp hc').1)
theorem Sep.perm (S : Sep Z n0 k0 h σ) (hp : σ.Perm σ') : Sep Z n0 k0 h σ' := ⟨S.1, fun x hx => S.2.1 x (hp.mem_iff.mpr hx), (hp.map (fun x => x.1)).nodup_iff.mp S.2.2⟩
theorem Sep.pull {x : Addr × (Cell → Prop)} (S : Sep Z n0 k0 h σ) (hi : σ[i]? = some x) : Sep Z n0 k0 h (x :: σ.eraseIdx i) := by
  obtain ⟨l1, e1⟩ := List.getElem?_eq_some_iff.mp hi
  subst e1
  refine S.perm ?_
  have e : σ = σ.take i ++ σ[i] :: σ.drop (i + 1) := by rw [← List.drop_eq_getElem_cons l1, List.take_append_drop]
  rw [List.eraseIdx_eq_take_drop_succ]
  conv => lhs; rw [e]
  exact List.perm_middle
theorem Sep.sub (S : Sep Z n0 k0 h σ) (hs : σ'.Sublist σ) : Sep Z n0 k0 h σ' := ⟨S.1, fun x hx => S.2.1 x (hs.subset hx), List.Nodup.sublist (hs.map (fun x => x.1)) S.2.2⟩
theorem ObjP.put {fs : List (String × String × String × Value)} {O nm ds : String} {old : Value} (H : ObjP Z C fs c) (hf : fs[j]? = some (O, nm, ds, old)) (q : h[a]? = some c) (W : Wr h h' a (RoadKit.slotOf Z O nm ds) v) : ObjP Z C (fs.set j (O, nm, ds, v)) (c.setSlot (RoadKit.slotOf Z O nm ds) v) := by
  obtain ⟨h1, h2, h3⟩ := H
  obtain ⟨c', e1, -, -, -, -, -, e7⟩ := wr_at W q
  have q' : h'[a]? = some (c.setSlot (RoadKit.slotOf Z O nm ds) v) := by rw [← (e7 rfl).1]; exact e1
  have hlt := (List.getElem?_eq_some_iff.mp hf).1
  refine ⟨exa_in ((exa_out h1 q).wr W) q', ?_, ?_⟩
  · intro f hfm
    obtain ⟨i, hi⟩ := List.mem_iff_getElem?.mp hfm
    by_cases hij : j = i
    · subst hij
      rw [List.getElem?_set_self hlt] at hi
      cases hi
      exact fld_in ((fld_out (h2 _ (List.mem_of_getElem? hf)) q).same W) q'
    · rw [List.getElem?_set_ne hij] at hi
      refine fld_in ((fld_out (h2 _ (List.mem_of_getElem? hi)) q).other W (Or.inr ?_)) q'
      obtain ⟨l1, r1⟩ := List.getElem?_eq_some_iff.mp hf
      obtain ⟨l2, r2⟩ := List.getElem?_eq_some_iff.mp hi
      have hN := List.pairwise_iff_getElem.mp h3
      rcases Nat.lt_or_gt_of_ne hij with z | z
      · have := hN j i l1 l2 z; rw [r1, r2] at this; exact fun y => this y.symm
      · have := hN i j l2 l1 z; rwa [r1, r2] at this
  · refine List.pairwise_iff_getElem.mpr fun i k hi hk hik => ?_
    have hN := List.pairwise_iff_getElem.mp h3
    have sl_eq : ∀ t (ht : t < (fs.set j (O, nm, ds, v)).length) (ht' : t < fs.length), RoadKit.slotOf Z (fs.set j (O, nm, ds, v))[t].1 (fs.set j (O, nm, ds, v))[t].2.1 (fs.set j (O, nm, ds, v))[t].2.2.1 = RoadKit.slotOf Z fs[t].1 fs[t].2.1 fs[t].2.2.1 := by
      intro t ht ht'
      rw [List.getElem_set]
      split
      · rename_i e; subst e
        have := (List.getElem?_eq_some_iff.mp hf).2
        rw [this]
      · rfl
    have hi' : i < fs.length := by simpa using hi
    have hk' : k < fs.length := by simpa using hk
    rw [sl_eq i hi hi', sl_eq k hk hk']
    exact hN i k hi' hk' hik
theorem laid_mem {a0 : Array Value} : ∀ {fs : List (String × String × String × Value)}, LaidL Z a0 C fs → ∀ f ∈ fs, Laid Z a0 C f.1 f.2.1 f.2.2.1 ∧ ∃ ty, parseFieldDescriptor f.2.2.1 = some ty ∧ f.2.2.2 = defaultValue ty
  | [], _, f, hf => nomatch hf
  | g :: fs, H, f, hf => by
    rcases List.mem_cons.mp hf with rfl | q
    · exact H.1
    · exact laid_mem H.2 f q
theorem laid_pair {a0 : Array Value} {fs : List (String × String × String × Value)} (H : LaidL Z a0 C fs) (hN : (fs.map (fun f => f.2.1)).Nodup) : fs.Pairwise (fun f f' => RoadKit.slotOf Z f.1 f.2.1 f.2.2.1 ≠ RoadKit.slotOf Z f'.1 f'.2.1 f'.2.2.1) := by
  refine List.pairwise_iff_getElem.mpr fun i j hi hj hij => ?_
  obtain ⟨L1, t1, p1, -⟩ := laid_mem H _ (List.getElem_mem hi)
  obtain ⟨L2, t2, p2, -⟩ := laid_mem H _ (List.getElem_mem hj)
  have hn := List.pairwise_iff_getElem.mp hN i j (by simpa using hi) (by simpa using hj) hij
  simp only [List.getElem_map] at hn
  exact RoadKit.slot_ne L1 L2 hn p1 p2
end Heap
section Rules2
variable {l : Launch} {Z : State} {n0 : Nat} {B : Bdy} {R : Room} {Q : Lst → Option Value → Asn → Prop} {cells slots : Nat} {σ : Asn} {pc pc' : Nat} {ls ls' : Array Slot} {st st' rest : List Value} {a0 : Array Value}
theorem W.conv {σ' : Asn} (hσ : ∀ k0 h, Sep Z n0 k0 h σ → Sep Z n0 k0 h σ') (k : W l Z n0 B R Q cells slots σ' pc ls st) : W l Z n0 B R Q cells slots σ pc ls st :=
  fun p e s vm0 k0 m args below meth c T locs C hSi X N S => k p e s vm0 k0 m args below meth c T locs C hSi X N (hσ _ _ S)
theorem W.pull (τ : Asn) (i : Nat) {x : Addr × (Cell → Prop)} (hi : σ[i]? = some x) (hτ : σ.eraseIdx i = τ) (k : W l Z n0 B R Q cells slots (x :: τ) pc ls st) : W l Z n0 B R Q cells slots σ pc ls st := by
  subst hτ; exact W.conv (fun _ _ S => S.pull hi) k
def pulls : Asn → List Nat → Asn
  | σ, [] => σ
  | σ, i :: is => pulls (match σ[i]? with | some x => x :: σ.eraseIdx i | none => σ) is
theorem Sep.pulls {k0 : Nat} {h : Heap} : ∀ (is : List Nat) (σ : Asn), Sep Z n0 k0 h σ → Sep Z n0 k0 h (pulls σ is)
  | [], σ, S => S
  | i :: is, σ, S => by
    refine Sep.pulls is _ ?_
    cases hx : σ[i]? with
    | none => exact S
    | some x => exact S.pull hx
theorem W.pulls (τ : Asn) (is : List Nat) (hτ : pulls σ is = τ) (k : W l Z n0 B R Q cells slots τ pc ls st) : W l Z n0 B R Q cells slots σ pc ls st := by
  subst hτ; exact W.conv (fun _ _ S => S.pulls is σ) k
theorem W.ne (i j : Nat) {a b : Addr} {P P' : Cell → Prop} (hi : σ[i]? = some (a, P)) (hj : σ[j]? = some (b, P')) (hij : i ≠ j) (k : a ≠ b → W l Z n0 B R Q cells slots σ pc ls st) : W l Z n0 B R Q cells slots σ pc ls st :=
  fun p e s vm0 k0 m args below meth c T locs C hSi X N S => k (S.ne hi hj hij) p e s vm0 k0 m args below meth c T locs C hSi X N S
theorem W.of2 {σ' : Asn} {cells' slots' : Nat} (hstep : ∀ (k0 : Nat) (p : Program) (e : Env) (s : State) (m : MethodId) (args : Array Value) (below : List Frame) (meth : Method) (c : Code) (T : State) (locs : List Loc), Cx p s m meth c Z B → Stand p l e R s m args below meth c T locs cells slots → Fr n0 locs → Sep Z n0 k0 T.heap σ →
      ∃ (T' : State) (locs' : List Loc), Stand p l e R s m args below meth c T' locs' cells' slots' ∧ Fr n0 locs' ∧ Sep Z n0 k0 T'.heap σ' ∧ ∀ t, Steps p.tables e below (T'.setTop (mkF m pc' ls' st')) t → Steps p.tables e below (T.setTop (mkF m pc ls st)) t)
    (k : W l Z n0 B R Q cells' slots' σ' pc' ls' st') : W l Z n0 B R Q cells slots σ pc ls st := by
  intro p e s vm0 k0 m args below meth c T locs C hSi X N S
  obtain ⟨T', locs', X', N', S', st⟩ := hstep k0 p e (s.setVm vm0) m args below meth c T locs C X N S
  obtain ⟨u, o, h1, h2⟩ := k p e s vm0 k0 m args below meth c T' locs' C hSi X' N' S'
  exact ⟨u, o, st u h1, h2⟩
theorem W.getF (i j : Nat) {idx : Nat} {a : Addr} {C R0 O n d host : String} {fs : List (String × String × String × Value)} {v : Value} (hd : decode B.2.2.1 pc = .ok (.getfield idx, 3)) (w : (Jvm.Cond.fieldLink B.1 idx R0 n d).before a0 Z = true ∨ (Jvm.Cond.fieldLinkNest B.1 idx R0 n d host).before a0 Z = true) (via : Via Z R0 O n d)
    (hi : σ[i]? = some (a, ObjP Z C fs)) (hf : fs[j]? = some (O, n, d, v)) (hp : pc + 3 = pc') (k : W l Z n0 B R Q cells slots σ pc' ls (v :: st)) : W l Z n0 B R Q cells slots σ pc ls (.ref a :: st) := by
  subst hp
  refine W.of2 (fun k0 p e s m args below meth c T locs ⟨hx, hby, hml, hown, hnm, hZ, hrt, hlk⟩ X N S => ?_) k
  obtain ⟨-, c1, hc1, H⟩ := S.get hi
  obtain ⟨T', X', e', st'⟩ := RoadKit.getF X hx hZ hown w via rfl (fld_out (H.2.1 _ (List.mem_of_getElem? hf)) hc1) (g := mkF m pc ls (.ref a :: st)) rfl rfl (hb hby hd)
  exact ⟨T', locs, X', N, by rw [e']; exact S, st'⟩
theorem W.putF (σ' : Asn) (i j : Nat) {idx kk : Nat} {a : Addr} {C R0 O n d host : String} {ty : FieldType} {fs : List (String × String × String × Value)} {v old : Value} (hd : decode B.2.2.1 pc = .ok (.putfield idx, 3)) (w : (Jvm.Cond.fieldLink B.1 idx R0 n d).before a0 Z = true ∨ (Jvm.Cond.fieldLinkNest B.1 idx R0 n d host).before a0 Z = true) (via : Via Z R0 O n d)
    (L : (Jvm.Cond.lays C O n d).before a0 Z = true ∨ ((Jvm.Cond.laysFinal C O n d).before a0 Z = true ∧ B.1 = O ∧ B.2.1 = "<init>")) (wi : (Jvm.Cond.instantiable C kk).before a0 Z = true) (hty : parseFieldDescriptor d = some ty) (hn : narrow ty v = v) (hft : fits ty v = true)
    (hi : σ[i]? = some (a, ObjP Z C fs)) (hf : fs[j]? = some (O, n, d, old)) (hσ : σ.set i (a, ObjP Z C (fs.set j (O, n, d, v))) = σ') (hp : pc + 3 = pc') (k : W l Z n0 B R Q cells slots σ' pc' ls st) : W l Z n0 B R Q cells slots σ pc ls (v :: .ref a :: st) := by
  subst hp hσ
  refine W.of2 (fun k0 p e s m args below meth c T locs ⟨hx, hby, hml, hown, hnm, hZ, hrt, hlk⟩ X N S => ?_) k
  obtain ⟨ha, c1, hc1, H⟩ := S.get hi
  obtain ⟨T', h', X', e', Wr', st'⟩ := RoadKit.putF X hx hZ hown w via rfl (fld_out (H.2.1 _ (List.mem_of_getElem? hf)) hc1) (exa_out H.1 hc1) (L.imp id (fun q => ⟨q.1, q.2.1, hnm.trans q.2.2⟩)) wi hty hn hft (g := mkF m pc ls (v :: .ref a :: st)) rfl rfl (hb hby hd)
  exact ⟨T', _, X', Fr.snoc X' N ha, by rw [e']; exact S.set hi Wr' (fun c2 hc2 H2 => H2.put hf hc2 Wr'), st'⟩
theorem W.getS {idx : Nat} {R0 O n d : String} {v : Value} (hd : decode B.2.2.1 pc = .ok (.getstatic idx, 3)) (w : (Jvm.Cond.fieldLink B.1 idx R0 n d).before a0 Z = true) (via : Via Z R0 O n d) (F : Sta Z Z.heap O n d v) (hp : pc + 3 = pc') (k : W l Z n0 B R Q cells slots σ pc' ls (v :: st)) : W l Z n0 B R Q cells slots σ pc ls st := by
  subst hp
  refine W.of2 (fun k0 p e s m args below meth c T locs ⟨hx, hby, hml, hown, hnm, hZ, hrt, hlk⟩ X N S => ?_) k
  obtain ⟨T', X', e', st'⟩ := RoadKit.getS (host := "") X hx hZ hown w via rfl (F.ext S.1.1.2) (g := mkF m pc ls st) rfl (hb hby hd)
  exact ⟨T', locs, X', N, by rw [e']; exact S, st'⟩
theorem W.new {idx kk : Nat} {C : String} (fs : List (String × String × String × Value)) (hd : decode B.2.2.1 pc = .ok (.new idx, 3)) (w : (Jvm.Cond.classLink B.1 idx C).before a0 Z = true) (wi : (Jvm.Cond.instantiable C kk).before a0 Z = true) (wz : (Jvm.Cond.initialized C).before a0 Z = true)
    (hL : LaidL Z a0 C fs) (hN : (fs.map (fun f => f.2.1)).Nodup) (hc : cells + 1 ≤ R.cells) (hs : slots + kk ≤ R.slots) (hp : pc + 3 = pc') (k : ∀ a, W l Z n0 B R Q (cells + 1) (slots + kk) ((a, ObjP Z C fs) :: σ) pc' ls (.ref a :: st)) : W l Z n0 B R Q cells slots σ pc ls st := by
  subst hp
  intro p e s0 vm0 k0 m args below meth c T locs C0 hSi X N S
  obtain ⟨hx, hby, hml, hown, hnm, hZ, hrt, hlk⟩ := C0
  obtain ⟨T2, h2, X2, e2, E2, A2, D2, ⟨cl, hcl, -, -⟩, st2⟩ := RoadKit.newO X hx hZ hown w wi wz rfl (g := mkF m pc ls st) rfl (hb hby hd) hc hs
  have S2 : Sep Z n0 k0 h2 ((T.heap.size, ObjP Z C fs) :: σ) := by
    refine S.new E2 hcl ⟨exa_in A2 hcl, fun f hf => ?_, laid_pair hL hN⟩
    obtain ⟨L1, ty, q1, q2⟩ := laid_mem hL f hf
    rw [q2]
    exact fld_in (D2 L1 q1) hcl
  obtain ⟨u, o, h1, h3⟩ := k T.heap.size p e s0 vm0 k0 m args below meth c T2 locs ⟨hx, hby, hml, hown, hnm, hZ, hrt, hlk⟩ hSi X2 N (by rw [e2]; exact S2)
  exact ⟨u, o, st2 u h1, h3⟩
theorem newA_list (cA : ClassId) (ty : FieldType) (n : Int32) : (newA cA ty n).slots.toList = List.replicate n.toNatClampNeg (defaultValue ty) := by simp [newA]
theorem W.newI (N : Nat) {aty : ArrayType} {n : Int32} (cap : Nat) (hd : decode B.2.2.1 pc = .ok (.newarray aty, 2)) (w : (Jvm.Cond.arrayClass (newarray.typeOf aty)).before a0 Z = true) (hdef : defaultValue (newarray.typeOf aty) = .int 0) (hn : ¬ n < 0) (hN : n.toNatClampNeg = N) (hcap : N ≤ cap) (h8 : cap * 8 ≤ 536870912)
    (hc : cells + 1 ≤ R.cells) (hs : slots + cap ≤ R.slots) (hp : pc + 2 = pc') (k : ∀ a, W l Z n0 B R Q (cells + 1) (slots + cap) ((a, IA Z (newarray.typeOf aty) (List.replicate N 0)) :: σ) pc' ls (.ref a :: st)) : W l Z n0 B R Q cells slots σ pc ls (.int n :: st) := by
  subst hp hN
  intro p e s0 vm0 k0 m args below meth c T locs C0 hSi X N S
  obtain ⟨hx, hby, hml, hown, hnm, hZ, hrt, hlk⟩ := C0
  obtain ⟨T2, h2, cA, X2, e2, E2, A2, st2⟩ := RoadKit.newP X hx hZ w rfl (g := mkF m pc ls (.int n :: st)) rfl (hb hby hd) rfl hn hcap h8 hc hs
  have S2 := S.new (P := IA Z (newarray.typeOf aty) (List.replicate n.toNatClampNeg 0)) E2 A2.1 ⟨A2.2.1, A2.2.2, by rw [newA_list, hdef, List.map_replicate]⟩
  obtain ⟨u, o, h1, h3⟩ := k T.heap.size p e s0 vm0 k0 m args below meth c T2 locs ⟨hx, hby, hml, hown, hnm, hZ, hrt, hlk⟩ hSi X2 N (by rw [e2]; exact S2)
  exact ⟨u, o, st2 u h1, h3⟩
theorem W.newJ (N : Nat) {n : Int32} (cap : Nat) (hd : decode B.2.2.1 pc = .ok (.newarray .long, 2)) (w : (Jvm.Cond.arrayClass .long).before a0 Z = true) (hn : ¬ n < 0) (hN : n.toNatClampNeg = N) (hcap : N ≤ cap) (h8 : cap * 8 ≤ 536870912)
    (hc : cells + 1 ≤ R.cells) (hs : slots + cap ≤ R.slots) (hp : pc + 2 = pc') (k : ∀ a, W l Z n0 B R Q (cells + 1) (slots + cap) ((a, LA Z (List.replicate N 0)) :: σ) pc' ls (.ref a :: st)) : W l Z n0 B R Q cells slots σ pc ls (.int n :: st) := by
  subst hp hN
  intro p e s0 vm0 k0 m args below meth c T locs C0 hSi X N S
  obtain ⟨hx, hby, hml, hown, hnm, hZ, hrt, hlk⟩ := C0
  obtain ⟨T2, h2, cA, X2, e2, E2, A2, st2⟩ := RoadKit.newP X hx hZ (aty := .long) w rfl (g := mkF m pc ls (.int n :: st)) rfl (hb hby hd) rfl hn hcap h8 hc hs
  have S2 := S.new (P := LA Z (List.replicate n.toNatClampNeg 0)) E2 A2.1 ⟨A2.2.1, A2.2.2, by rw [newA_list, List.map_replicate]; rfl⟩
  obtain ⟨u, o, h1, h3⟩ := k T.heap.size p e s0 vm0 k0 m args below meth c T2 locs ⟨hx, hby, hml, hown, hnm, hZ, hrt, hlk⟩ hSi X2 N (by rw [e2]; exact S2)
  exact ⟨u, o, st2 u h1, h3⟩
theorem slot_get {c : Cell} {vs : List Value} {n : Nat} {v : Value} (h : c.slots.toList = vs) (hv : vs[n]? = some v) : c.slots[n]? = some v ∧ n < c.slots.size := by
  have e : c.slots[n]? = some v := by rw [← Array.getElem?_toList, h]; exact hv
  exact ⟨e, (Array.getElem?_eq_some_iff.mp e).1⟩
theorem slot_set {c : Cell} {vs : List Value} (h : c.slots.toList = vs) (n : Nat) (v : Value) : (c.setSlot n v).slots.toList = vs.set n v := by rw [← h]; simp [Cell.setSlot]
theorem slot_in {c : Cell} {n : Nat} {j : Int32} (h0 : ¬ j < 0) (hn : j.toNatClampNeg = n) (h : n < c.slots.size) : ¬ (j < 0 ∨ c.slots.size ≤ j.toNatClampNeg) := by rw [hn]; exact fun q => q.elim h0 (fun z => by omega)
theorem W.iaload (i n : Nat) {a : Addr} {xs : List Int32} {j : Int32} {x : Int32} (hd : decode B.2.2.1 pc = .ok (.iaload, 1)) (hi : σ[i]? = some (a, IA Z .int xs)) (h0 : ¬ j < 0) (hn : j.toNatClampNeg = n) (hx : xs[n]? = some x) (hp : pc + 1 = pc') (k : W l Z n0 B R Q cells slots σ pc' ls (.int x :: st)) : W l Z n0 B R Q cells slots σ pc ls (.int j :: .ref a :: st) := by
  subst hp
  refine W.of2 (fun k0 p e s m args below meth c T locs ⟨hx', hby, hml, hown, hnm, hZ, hrt, hlk⟩ X N S => ?_) k
  obtain ⟨-, c1, hc1, H1, H2, H3⟩ := S.get hi
  obtain ⟨g1, g2⟩ := slot_get (n := n) (v := .int x) H3 (by rw [List.getElem?_map, hx]; rfl)
  exact ⟨T, locs, X, N, S, fun t ht => X.iaload hx' hc1 (State.isArrayOf_alike hZ.alike H1) H2 (slot_in h0 hn g2) (by rw [hn]; exact g1) (g := mkF m pc ls (.int j :: .ref a :: st)) rfl rfl (hb hby hd) t ht⟩
theorem W.caload (i n : Nat) {a : Addr} {xs : List Int32} {j : Int32} {x : Int32} (hd : decode B.2.2.1 pc = .ok (.caload, 1)) (hi : σ[i]? = some (a, IA Z .char xs)) (h0 : ¬ j < 0) (hn : j.toNatClampNeg = n) (hx : xs[n]? = some x) (hp : pc + 1 = pc') (k : W l Z n0 B R Q cells slots σ pc' ls (.int x :: st)) : W l Z n0 B R Q cells slots σ pc ls (.int j :: .ref a :: st) := by
  subst hp
  refine W.of2 (fun k0 p e s m args below meth c T locs ⟨hx', hby, hml, hown, hnm, hZ, hrt, hlk⟩ X N S => ?_) k
  obtain ⟨-, c1, hc1, H1, H2, H3⟩ := S.get hi
  obtain ⟨g1, g2⟩ := slot_get (n := n) (v := .int x) H3 (by rw [List.getElem?_map, hx]; rfl)
  exact ⟨T, locs, X, N, S, fun t ht => X.caload hx' hc1 (State.isArrayOf_alike hZ.alike H1) H2 (slot_in h0 hn g2) (by rw [hn]; exact g1) (g := mkF m pc ls (.int j :: .ref a :: st)) rfl rfl (hb hby hd) t ht⟩
theorem W.baload (i n : Nat) {a : Addr} {xs : List Int32} {j : Int32} {x : Int32} (hd : decode B.2.2.1 pc = .ok (.baload, 1)) (hi : σ[i]? = some (a, IA Z .byte xs)) (h0 : ¬ j < 0) (hn : j.toNatClampNeg = n) (hx : xs[n]? = some x) (hp : pc + 1 = pc') (k : W l Z n0 B R Q cells slots σ pc' ls (.int x :: st)) : W l Z n0 B R Q cells slots σ pc ls (.int j :: .ref a :: st) := by
  subst hp
  refine W.of2 (fun k0 p e s m args below meth c T locs ⟨hx', hby, hml, hown, hnm, hZ, hrt, hlk⟩ X N S => ?_) k
  obtain ⟨-, c1, hc1, H1, H2, H3⟩ := S.get hi
  obtain ⟨g1, g2⟩ := slot_get (n := n) (v := .int x) H3 (by rw [List.getElem?_map, hx]; rfl)
  exact ⟨T, locs, X, N, S, fun t ht => X.baloadBytes hx' hc1 (State.isArrayOf_alike hZ.alike H1) H2 (slot_in h0 hn g2) (by rw [hn]; exact g1) (g := mkF m pc ls (.int j :: .ref a :: st)) rfl rfl (hb hby hd) t ht⟩
theorem W.zaload (i n : Nat) {a : Addr} {xs : List Int32} {j : Int32} {x : Int32} (hd : decode B.2.2.1 pc = .ok (.baload, 1)) (hi : σ[i]? = some (a, IA Z .boolean xs)) (h0 : ¬ j < 0) (hn : j.toNatClampNeg = n) (hx : xs[n]? = some x) (hp : pc + 1 = pc') (k : W l Z n0 B R Q cells slots σ pc' ls (.int x :: st)) : W l Z n0 B R Q cells slots σ pc ls (.int j :: .ref a :: st) := by
  subst hp
  refine W.of2 (fun k0 p e s m args below meth c T locs ⟨hx', hby, hml, hown, hnm, hZ, hrt, hlk⟩ X N S => ?_) k
  obtain ⟨-, c1, hc1, H1, H2, H3⟩ := S.get hi
  obtain ⟨g1, g2⟩ := slot_get (n := n) (v := .int x) H3 (by rw [List.getElem?_map, hx]; rfl)
  exact ⟨T, locs, X, N, S, fun t ht => X.baloadBooleans hx' hc1 (State.isArrayOf_alike hZ.alike H1) H2 (slot_in h0 hn g2) (by rw [hn]; exact g1) (g := mkF m pc ls (.int j :: .ref a :: st)) rfl rfl (hb hby hd) t ht⟩
theorem W.laload (i n : Nat) {a : Addr} {xs : List Int64} {j : Int32} {x : Int64} (hd : decode B.2.2.1 pc = .ok (.laload, 1)) (hi : σ[i]? = some (a, LA Z xs)) (h0 : ¬ j < 0) (hn : j.toNatClampNeg = n) (hx : xs[n]? = some x) (hp : pc + 1 = pc') (k : W l Z n0 B R Q cells slots σ pc' ls (.long x :: st)) : W l Z n0 B R Q cells slots σ pc ls (.int j :: .ref a :: st) := by
  subst hp
  refine W.of2 (fun k0 p e s m args below meth c T locs ⟨hx', hby, hml, hown, hnm, hZ, hrt, hlk⟩ X N S => ?_) k
  obtain ⟨-, c1, hc1, H1, H2, H3⟩ := S.get hi
  obtain ⟨g1, g2⟩ := slot_get (n := n) (v := .long x) H3 (by rw [List.getElem?_map, hx]; rfl)
  exact ⟨T, locs, X, N, S, fun t ht => X.laload hx' hc1 (State.isArrayOf_alike hZ.alike H1) H2 (slot_in h0 hn g2) (by rw [hn]; exact g1) (g := mkF m pc ls (.int j :: .ref a :: st)) rfl rfl (hb hby hd) t ht⟩
theorem W.iastore (σ' : Asn) (i n : Nat) {a : Addr} {xs : List Int32} {j : Int32} {x : Int32} (hd : decode B.2.2.1 pc = .ok (.iastore, 1)) (hi : σ[i]? = some (a, IA Z .int xs)) (h0 : ¬ j < 0) (hn : j.toNatClampNeg = n) (hx : n < xs.length) (hσ : σ.set i (a, IA Z .int (xs.set n (x))) = σ') (hp : pc + 1 = pc') (k : W l Z n0 B R Q cells slots σ' pc' ls st) : W l Z n0 B R Q cells slots σ pc ls (.int x :: .int j :: .ref a :: st) := by
  subst hp hσ
  refine W.of2 (fun k0 p e s m args below meth c T locs ⟨hx', hby, hml, hown, hnm, hZ, hrt, hlk⟩ X N S => ?_) k
  obtain ⟨ha, c1, hc1, H1, H2, H3⟩ := S.get hi
  have g2 : n < c1.slots.size := by rw [← Array.length_toList, H3, List.length_map]; exact hx
  obtain ⟨T', h', X', e', W', st'⟩ := RoadKit.stI X hx' hZ rfl ⟨hc1, H1, H2⟩ (slot_in h0 hn g2) (g := mkF m pc ls (.int x :: .int j :: .ref a :: st)) rfl rfl (hb hby hd)
  rw [hn] at W'
  refine ⟨T', _, X', Fr.snoc X' N ha, ?_, st'⟩
  rw [e']
  exact S.set hi W' (fun c2 hc2 H => ⟨H.1, H.2.1, by rw [slot_set H.2.2, List.map_set]⟩)
theorem W.castore (σ' : Asn) (i n : Nat) {a : Addr} {xs : List Int32} {j : Int32} {x : Int32} (hd : decode B.2.2.1 pc = .ok (.castore, 1)) (hi : σ[i]? = some (a, IA Z .char xs)) (h0 : ¬ j < 0) (hn : j.toNatClampNeg = n) (hx : n < xs.length) (hσ : σ.set i (a, IA Z .char (xs.set n (nar .char x))) = σ') (hp : pc + 1 = pc') (k : W l Z n0 B R Q cells slots σ' pc' ls st) : W l Z n0 B R Q cells slots σ pc ls (.int x :: .int j :: .ref a :: st) := by
  subst hp hσ
  refine W.of2 (fun k0 p e s m args below meth c T locs ⟨hx', hby, hml, hown, hnm, hZ, hrt, hlk⟩ X N S => ?_) k
  obtain ⟨ha, c1, hc1, H1, H2, H3⟩ := S.get hi
  have g2 : n < c1.slots.size := by rw [← Array.length_toList, H3, List.length_map]; exact hx
  obtain ⟨T', h', X', e', W', st'⟩ := RoadKit.stC X hx' hZ rfl ⟨hc1, H1, H2⟩ (slot_in h0 hn g2) (g := mkF m pc ls (.int x :: .int j :: .ref a :: st)) rfl rfl (hb hby hd)
  rw [hn] at W'
  refine ⟨T', _, X', Fr.snoc X' N ha, ?_, st'⟩
  rw [e']
  exact S.set hi W' (fun c2 hc2 H => ⟨H.1, H.2.1, by rw [slot_set H.2.2, List.map_set]⟩)
theorem W.bastore (σ' : Asn) (i n : Nat) {a : Addr} {xs : List Int32} {j : Int32} {x : Int32} (hd : decode B.2.2.1 pc = .ok (.bastore, 1)) (hi : σ[i]? = some (a, IA Z .byte xs)) (h0 : ¬ j < 0) (hn : j.toNatClampNeg = n) (hx : n < xs.length) (hσ : σ.set i (a, IA Z .byte (xs.set n (nar .byte x))) = σ') (hp : pc + 1 = pc') (k : W l Z n0 B R Q cells slots σ' pc' ls st) : W l Z n0 B R Q cells slots σ pc ls (.int x :: .int j :: .ref a :: st) := by
  subst hp hσ
  refine W.of2 (fun k0 p e s m args below meth c T locs ⟨hx', hby, hml, hown, hnm, hZ, hrt, hlk⟩ X N S => ?_) k
  obtain ⟨ha, c1, hc1, H1, H2, H3⟩ := S.get hi
  have g2 : n < c1.slots.size := by rw [← Array.length_toList, H3, List.length_map]; exact hx
  obtain ⟨T', h', X', e', W', st'⟩ := RoadKit.stB X hx' hZ rfl ⟨hc1, H1, H2⟩ (slot_in h0 hn g2) (g := mkF m pc ls (.int x :: .int j :: .ref a :: st)) rfl rfl (hb hby hd)
  rw [hn] at W'
  refine ⟨T', _, X', Fr.snoc X' N ha, ?_, st'⟩
  rw [e']
  exact S.set hi W' (fun c2 hc2 H => ⟨H.1, H.2.1, by rw [slot_set H.2.2, List.map_set]⟩)
theorem W.zastore (σ' : Asn) (i n : Nat) {a : Addr} {xs : List Int32} {j : Int32} {x : Int32} (hd : decode B.2.2.1 pc = .ok (.bastore, 1)) (hi : σ[i]? = some (a, IA Z .boolean xs)) (h0 : ¬ j < 0) (hn : j.toNatClampNeg = n) (hx : n < xs.length) (hσ : σ.set i (a, IA Z .boolean (xs.set n (nar .boolean x))) = σ') (hp : pc + 1 = pc') (k : W l Z n0 B R Q cells slots σ' pc' ls st) : W l Z n0 B R Q cells slots σ pc ls (.int x :: .int j :: .ref a :: st) := by
  subst hp hσ
  refine W.of2 (fun k0 p e s m args below meth c T locs ⟨hx', hby, hml, hown, hnm, hZ, hrt, hlk⟩ X N S => ?_) k
  obtain ⟨ha, c1, hc1, H1, H2, H3⟩ := S.get hi
  have g2 : n < c1.slots.size := by rw [← Array.length_toList, H3, List.length_map]; exact hx
  obtain ⟨T', h', X', e', W', st'⟩ := RoadKit.stZ X hx' hZ rfl ⟨hc1, H1, H2⟩ (slot_in h0 hn g2) (g := mkF m pc ls (.int x :: .int j :: .ref a :: st)) rfl rfl (hb hby hd)
  rw [hn] at W'
  refine ⟨T', _, X', Fr.snoc X' N ha, ?_, st'⟩
  rw [e']
  exact S.set hi W' (fun c2 hc2 H => ⟨H.1, H.2.1, by rw [slot_set H.2.2, List.map_set]⟩)
theorem W.lastore (σ' : Asn) (i n : Nat) {a : Addr} {xs : List Int64} {j : Int32} {x : Int64} (hd : decode B.2.2.1 pc = .ok (.lastore, 1)) (hi : σ[i]? = some (a, LA Z xs)) (h0 : ¬ j < 0) (hn : j.toNatClampNeg = n) (hx : n < xs.length) (hσ : σ.set i (a, LA Z (xs.set n (x))) = σ') (hp : pc + 1 = pc') (k : W l Z n0 B R Q cells slots σ' pc' ls st) : W l Z n0 B R Q cells slots σ pc ls (.long x :: .int j :: .ref a :: st) := by
  subst hp hσ
  refine W.of2 (fun k0 p e s m args below meth c T locs ⟨hx', hby, hml, hown, hnm, hZ, hrt, hlk⟩ X N S => ?_) k
  obtain ⟨ha, c1, hc1, H1, H2, H3⟩ := S.get hi
  have g2 : n < c1.slots.size := by rw [← Array.length_toList, H3, List.length_map]; exact hx
  obtain ⟨T', h', X', e', W', st'⟩ := RoadKit.stJ X hx' hZ rfl ⟨hc1, H1, H2⟩ (slot_in h0 hn g2) (g := mkF m pc ls (.long x :: .int j :: .ref a :: st)) rfl rfl (hb hby hd)
  rw [hn] at W'
  refine ⟨T', _, X', Fr.snoc X' N ha, ?_, st'⟩
  rw [e']
  exact S.set hi W' (fun c2 hc2 H => ⟨H.1, H.2.1, by rw [slot_set H.2.2, List.map_set]⟩)
theorem W.len (i : Nat) {a : Addr} {ty : FieldType} {xs : List Int32} (v : Int32) (hd : decode B.2.2.1 pc = .ok (.arraylength, 1)) (hi : σ[i]? = some (a, IA Z ty xs)) (hv : xs.length.toInt32 = v) (hp : pc + 1 = pc') (k : W l Z n0 B R Q cells slots σ pc' ls (.int v :: st)) : W l Z n0 B R Q cells slots σ pc ls (.ref a :: st) := by
  subst hp hv
  refine W.of2 (fun k0 p e s m args below meth c T locs ⟨hx, hby, hml, hown, hnm, hZ, hrt, hlk⟩ X N S => ?_) k
  obtain ⟨-, c1, hc1, H1, H2, H3⟩ := S.get hi
  refine ⟨T, locs, X, N, S, fun t ht => X.arraylength hx hc1 (State.isArrayOf_alike hZ.alike H1) (g := mkF m pc ls (.ref a :: st)) rfl rfl (hb hby hd) t ?_⟩
  have e : c1.slots.size = xs.length := by rw [← Array.length_toList, H3, List.length_map]
  rw [e]; exact ht
theorem W.lenJ (i : Nat) {a : Addr} {xs : List Int64} (v : Int32) (hd : decode B.2.2.1 pc = .ok (.arraylength, 1)) (hi : σ[i]? = some (a, LA Z xs)) (hv : xs.length.toInt32 = v) (hp : pc + 1 = pc') (k : W l Z n0 B R Q cells slots σ pc' ls (.int v :: st)) : W l Z n0 B R Q cells slots σ pc ls (.ref a :: st) := by
  subst hp hv
  refine W.of2 (fun k0 p e s m args below meth c T locs ⟨hx, hby, hml, hown, hnm, hZ, hrt, hlk⟩ X N S => ?_) k
  obtain ⟨-, c1, hc1, H1, H2, H3⟩ := S.get hi
  refine ⟨T, locs, X, N, S, fun t ht => X.arraylength hx hc1 (State.isArrayOf_alike hZ.alike H1) (g := mkF m pc ls (.ref a :: st)) rfl rfl (hb hby hd) t ?_⟩
  have e : c1.slots.size = xs.length := by rw [← Array.length_toList, H3, List.length_map]
  rw [e]; exact ht
theorem W.initO {i : Nat} {a : Addr} (hd : decode B.2.2.1 pc = .ok (.invokespecial i, 3)) (w1 : (Jvm.Cond.methodLink B.1 i Lib.objectInit).before a0 Z = true) (w2 : (Jvm.Cond.instanceMethod Lib.objectInit).before a0 Z = true) (w3 : (Jvm.Cond.code Lib.objectInit object_method_1_code 1 none).before a0 Z = true)
    (hsz : ls.size = B.2.2.2.1) (hf : 1 ≤ R.frames) (hl : (st.map fun v => v.category).sum + 12 ≤ R.locals) (hp : pc + 3 = pc') (k : W l Z n0 B R Q cells slots σ pc' ls st) : W l Z n0 B R Q cells slots σ pc ls (.ref a :: st) := by
  subst hp
  refine W.of2 (fun k0 p e s m args below meth c T locs ⟨hx, hby, hml, hown, hnm, hZ, hrt, hlk⟩ X N S => ?_) k
  obtain ⟨T', X', e', st'⟩ := RoadKit.initO X hx hZ hown w1 w2 w3 rfl (g := mkF m pc ls (.ref a :: st)) rfl (by rw [hml]; exact hsz) rfl (hb hby hd) hf (W := (st.map fun v => v.category).sum) (by show 2 * 0 + _ ≤ _; omega) hl
  exact ⟨T', locs, X', N, by rw [e']; exact S, st'⟩
theorem W.callI {y : MethodName} {bytes : ByteArray} {maxL : Nat} {rm : Room} {a : Addr} {as : List Value} {Qc : Lst → Option Value → Asn → Prop} {i : Nat} {sg : MethodDescriptor} (hS : Sp l Z n0 B.2.2.2.2.2 y bytes maxL none rm (.ref a :: as) σ Qc)
    (hd : decode B.2.2.1 pc = .ok (.invokespecial i, 3)) (hy1 : y.name = "<init>") (w1 : (Jvm.Cond.methodLink B.1 i y).before a0 Z = true) (w2 : (Jvm.Cond.instanceMethod y).before a0 Z = true) (wz : (Jvm.Cond.initialized y.cls).before a0 Z = true) (wc : (Jvm.Cond.code y bytes maxL none).before a0 Z = true)
    (hy : y.cls ≠ "java/lang/invoke/MethodHandle" ∧ y.cls ≠ "java/lang/invoke/VarHandle") (hsg : parseMethodDescriptor y.desc = some sg) (hln : as.length = sg.parameters.length) (hst : st = as.reverse ++ .ref a :: rest)
    (hf : rm.frames + 1 ≤ R.frames) (hl : (rest.map fun v => v.category).sum + (maxL + 11) + rm.locals ≤ R.locals) (hc : cells + rm.cells ≤ R.cells) (hs : slots + rm.slots ≤ R.slots) (hsz : ls.size = B.2.2.2.1) (hp : pc + 3 = pc')
    (k : ∀ w v σ', Qc w v σ' → W l Z n0 (B.at w) R Q (cells + rm.cells) (slots + rm.slots) σ' pc' ls (v.toList ++ rest)) : W l Z n0 B R Q cells slots σ pc ls st := by
  subst hp
  intro p e s vm0 k0 m args below meth c T locs C hSi X N S
  obtain ⟨hx, hby, hml, hown, hnm, hZ, hrt, hlk, hV⟩ := id C
  obtain ⟨v, _, ⟨T8, L8, k8, n8⟩, -, X8, hS2, hg8, ⟨Lc8, ⟨⟨w, σ', hQ8, hV8, hS8⟩, hF8⟩, l8, y8, z8⟩, st8⟩ := X.specialBackS hx (y := y) hy1 hown (mvT hZ w1) (mvT hZ w2) (mvT hZ wc) hy (W.back (a0 := a0) hS S hZ hV wc wz hf hl) (g := (mkF m pc ls st)) rfl (by rw [hml]; exact hsz) (Steps.refl _) (a := a) (argsL := as) (rest := rest) (lenOf hsg hln) hst (by show 2 * 0 + _ ≤ _; omega) (hb hby hd) (fun _ _ => ⟨rfl, rfl, hc, hs⟩)
  dsimp only [Pt.U, Pt.locs, Pt.cells, Pt.slots] at X8 l8 y8 z8 st8 hS8 hV8 hS2 hg8
  subst l8 y8 z8
  obtain ⟨u, o, h1, h2⟩ := W.behind (B := B) rfl C hSi S.1.2 X8 hS2 hg8 (N.app hF8) hV8 hS8 (k w v σ' hQ8)
  exact ⟨u, o, st8.trans h1, h2⟩
theorem W.callV (j : Nat) {y : MethodName} {bytes : ByteArray} {maxL : Nat} {ret : Option FieldType} {rm : Room} {a : Addr} {C : String} {fs : List (String × String × String × Value)} {as : List Value} {Qc : Lst → Option Value → Asn → Prop} {i : Nat} {sg : MethodDescriptor} (hj : σ[j]? = some (a, ObjP Z C fs)) (hS : Sp l Z n0 B.2.2.2.2.2 y bytes maxL ret rm (.ref a :: as) σ Qc)
    (hd : decode B.2.2.1 pc = .ok (.invokevirtual i, 3)) (w1 : (Jvm.Cond.methodLink B.1 i y).before a0 Z = true) (wd : (Jvm.Cond.declares y).before a0 Z = true) (wsl : (Jvm.Cond.selects C y y).before a0 Z = true) (w2 : (Jvm.Cond.instanceMethod y).before a0 Z = true) (wz : (Jvm.Cond.initialized y.cls).before a0 Z = true) (wc : (Jvm.Cond.code y bytes maxL ret).before a0 Z = true) (hyc : y.cls = C)
    (hy : y.cls ≠ "java/lang/invoke/MethodHandle" ∧ y.cls ≠ "java/lang/invoke/VarHandle") (hsg : parseMethodDescriptor y.desc = some sg) (hln : as.length = sg.parameters.length) (hst : st = as.reverse ++ .ref a :: rest)
    (hf : rm.frames + 1 ≤ R.frames) (hl : (rest.map fun v => v.category).sum + (maxL + 11) + rm.locals ≤ R.locals) (hc : cells + rm.cells ≤ R.cells) (hs : slots + rm.slots ≤ R.slots) (hsz : ls.size = B.2.2.2.1) (hp : pc + 3 = pc')
    (k : ∀ w v σ', Qc w v σ' → W l Z n0 (B.at w) R Q (cells + rm.cells) (slots + rm.slots) σ' pc' ls (v.toList ++ rest)) : W l Z n0 B R Q cells slots σ pc ls st := by
  subst hp hyc
  intro p e s vm0 k0 m args below meth c T locs Cc hSi X N S
  obtain ⟨hx, hby, hml, hown, hnm, hZ, hrt, hlk, hV⟩ := id Cc
  obtain ⟨-, c1, hc1, H⟩ := S.get hj
  obtain ⟨cq, kq, qa, qb, qc⟩ := isOf (s := s.setVm vm0) hZ rfl (exa_out H.1 hc1)
  obtain ⟨v, _, ⟨T8, L8, k8, n8⟩, -, X8, hS2, hg8, ⟨Lc8, ⟨⟨w, σ', hQ8, hV8, hS8⟩, hF8⟩, l8, y8, z8⟩, st8⟩ := X.virtualBackS hx (y := y) (z := y) hown (mvT hZ w1) (mvT hZ wd) (notFace_of_selects (args := #[]) (mvT hZ wsl)) (mvT hZ wsl) (mvT hZ w2) hy (W.back (a0 := a0) hS S hZ hV wc wz hf hl) qa qc (g := (mkF m pc ls st)) rfl (by rw [hml]; exact hsz) (Steps.refl _) (argsL := as) (rest := rest) (lenOf hsg hln) hst (by show 2 * 0 + _ ≤ _; omega) (hb hby hd) (fun _ _ => ⟨rfl, rfl, hc, hs⟩)
  dsimp only [Pt.U, Pt.locs, Pt.cells, Pt.slots] at X8 l8 y8 z8 st8 hS8 hV8 hS2 hg8
  subst l8 y8 z8
  obtain ⟨u, o, h1, h2⟩ := W.behind (B := B) rfl Cc hSi S.1.2 X8 hS2 hg8 (N.app hF8) hV8 hS8 (k w v σ' hQ8)
  exact ⟨u, o, st8.trans h1, h2⟩
end Rules2
section Rules3
variable {l : Launch} {Z : State} {n0 : Nat} {B : Bdy} {R : Room} {Q : Lst → Option Value → Asn → Prop} {cells slots : Nat} {σ : Asn} {pc pc' : Nat} {ls ls' : Array Slot} {st st' rest : List Value} {a0 : Array Value}
theorem nar_ref {t : FieldType} {v : Value} (hv : v.isRef = true) : narrow t v = v := by rcases ref_cases hv with rfl | ⟨a, rfl⟩ <;> cases t <;> rfl
theorem fit_ref {n : String} {v : Value} (hv : v.isRef = true) : fits (.object n) v = true := by rcases ref_cases hv with rfl | ⟨a, rfl⟩ <;> rfl
theorem fit_refA {t : FieldType} {v : Value} (hv : v.isRef = true) : fits (.array t) v = true := by rcases ref_cases hv with rfl | ⟨a, rfl⟩ <;> rfl
theorem W.drop (τ : Asn) (i : Nat) (hτ : σ.eraseIdx i = τ) (k : W l Z n0 B R Q cells slots τ pc ls st) : W l Z n0 B R Q cells slots σ pc ls st := by
  subst hτ; exact W.conv (fun _ _ S => S.sub (List.eraseIdx_sublist σ i)) k
theorem Sep.imp {k0 : Nat} {h : Heap} {i : Nat} {a : Addr} {P P' : Cell → Prop} (S : Sep Z n0 k0 h σ) (hi : σ[i]? = some (a, P)) (hP : ∀ c, P c → P' c) : Sep Z n0 k0 h (σ.set i (a, P')) := by
  refine ⟨S.1, ?_, ?_⟩
  · intro x hx
    obtain ⟨j, hj⟩ := List.mem_iff_getElem?.mp hx
    by_cases hij : i = j
    · subst hij
      rw [List.getElem?_set_self (List.getElem?_eq_some_iff.mp hi).1] at hj
      cases hj
      obtain ⟨q1, c, q2, q3⟩ := S.get hi
      exact ⟨q1, c, q2, hP c q3⟩
    · rw [List.getElem?_set_ne hij] at hj
      exact S.2.1 x (List.mem_of_getElem? hj)
  · have e : (σ.set i (a, P')).map (fun x => x.1) = σ.map (fun x => x.1) := by
      apply List.ext_getElem?
      intro j
      simp only [List.getElem?_map]
      by_cases hij : i = j
      · subst hij
        rw [List.getElem?_set_self (List.getElem?_eq_some_iff.mp hi).1, hi]; rfl
      · rw [List.getElem?_set_ne hij]
    rw [e]; exact S.2.2
theorem ObjP.sub {C : String} {fs fs' : List (String × String × String × Value)} {c : Cell} (H : ObjP Z C fs c) (hs : fs'.Sublist fs) : ObjP Z C fs' c := ⟨H.1, fun f hf => H.2.1 f (hs.subset hf), H.2.2.sublist hs⟩
theorem W.fewer (σ' : Asn) (i : Nat) {a : Addr} {C : String} {fs fs' : List (String × String × String × Value)} (hi : σ[i]? = some (a, ObjP Z C fs)) (hs : fs'.Sublist fs) (hσ : σ.set i (a, ObjP Z C fs') = σ') (k : W l Z n0 B R Q cells slots σ' pc ls st) : W l Z n0 B R Q cells slots σ pc ls st := by
  subst hσ; exact W.conv (fun _ _ S => S.imp hi (fun c H => H.sub hs)) k
theorem flt_at {s : State} {args : Array Value} {own : String} {i : Nat} {b : UInt32} (hZ : Z.Warmed39 s.vm) (w : (Jvm.Cond.constantFloat own i b).before a0 Z = true) : (Jvm.Cond.constantFloat own i b).before args s = true :=
  constantFloat_same (s := Z.setVm s.vm) (s' := s) (args' := args) rfl ((Cond.constantFloat_setVm hZ.alike own i b).trans w)
theorem W.ldcF {i : Nat} {b : UInt32} (hd : decode B.2.2.1 pc = .ok (.ldc i, 2)) (w : (Jvm.Cond.constantFloat B.1 i b).before a0 Z = true) (hp : pc + 2 = pc') (k : W l Z n0 B R Q cells slots σ pc' ls (.float b :: st)) : W l Z n0 B R Q cells slots σ pc ls st := by
  subst hp; exact W.of (fun p e s m args below meth c T locs C X t h => X.ldcFloatC C.1 C.2.2.2.1 (flt_at C.2.2.2.2.2.1 w) (g := mkF m pc ls st) rfl (hb C.2.1 hd) t h) k
end Rules3
/-! OWN FRAMEWORK, the form S: its own rules -/
abbrev STR : String := "java/lang/String"
section S0
variable {l : Launch} {Z : State} {n0 : Nat} {B : Bdy} {R : Room} {Q : Lst → Option Value → Asn → Prop} {cells slots : Nat} {σ : Asn} {pc pc' : Nat} {ls ls' : Array Slot} {st st' rest : List Value} {a0 : Array Value}
/-- as W, at a point where the heap is still the frame's start's -/
def W0 (l : Launch) (Z : State) (n0 : Nat) (B : Bdy) (R : Room) (Q : Lst → Option Value → Asn → Prop) (cells slots : Nat) (σ : Asn) (pc : Nat) (ls : Array Slot) (st : List Value) : Prop :=
  ∀ (p : Program) (e : Env) (s : State) (m : MethodId) (args : Array Value) (below : List Frame) (meth : Method) (c : Code) (T : State),
    Cx p s m meth c Z B → Stand p l e R s m args below meth c T [] cells slots → T.heap = s.heap → Sep Z n0 0 T.heap σ →
    ∃ (u : State) (o : Outcome), Steps p.tables e below (T.setTop (mkF m pc ls st)) u ∧ u.status = .running ∧ Ended u below o ∧
      ∃ (v : Option Value) (L : List Loc), o = .returned v ∧ ((∃ w σ', Q w v σ' ∧ VI Z w u.vm ∧ Sep Z n0 0 u.heap σ') ∧ Fr n0 L) ∧ ReturnedEndW s o u L R.cells R.slots
theorem Sp.of0 {u : Lst} {y : MethodName} {bytes : ByteArray} {maxL : Nat} {ret : Option FieldType} {as : List Value} (hpn : plainFor y = true) (hent : ∀ m, entryFrame m as.toArray maxL = mkF m 0 ls [])
    (k : W0 l Z n0 (y.cls, y.name, bytes, maxL, ret, u) R Q 0 0 σ 0 ls []) : Sp l Z n0 u y bytes maxL ret R as σ Q := by
  intro ws h0 hS
  refine MetFree.of_bodySF hpn hisR ?_
  intro p e s m args below meth c s₁ Bd hml0 hP hK
  obtain ⟨rfl, hZ, hh, hV⟩ := hP
  have e0 : s₁.heap = h0 := by rw [← hh, Bd.state]; rfl
  obtain ⟨u, o, h1, h2, h3, h4⟩ := k p e s m _ below meth c s₁ ⟨Bd.exec, Bd.bytes, hml0, findClass_of_methodNamed Bd.named, (name_of_methodNamed Bd.named Bd.method).1, hZ, Bd.returns, Bd.notSynchronized, hV⟩ (Stand.of_body Bd) (e0.trans hh.symm) (by rw [e0]; exact hS)
  exact ⟨u, o, castTop (hent m) h1, h2, h3, h4⟩
theorem W0.to (k : W l Z n0 B R Q cells slots σ pc ls st) : W0 l Z n0 B R Q cells slots σ pc ls st :=
  fun p e s m args below meth c T C X hT S => k p e s s.vm 0 m args below meth c T [] C ((State.WarmedH.refl s).since 0) X (Fr.nil n0) S
theorem W0.of (hstep : ∀ (p : Program) (e : Env) (s : State) (m : MethodId) (args : Array Value) (below : List Frame) (meth : Method) (c : Code) (T : State), Cx p s m meth c Z B → Stand p l e R s m args below meth c T [] cells slots → ∀ t, Steps p.tables e below (T.setTop (mkF m pc' ls' st')) t → Steps p.tables e below (T.setTop (mkF m pc ls st)) t)
    (k : W0 l Z n0 B R Q cells slots σ pc' ls' st') : W0 l Z n0 B R Q cells slots σ pc ls st := by
  intro p e s m args below meth c T C X hT S
  obtain ⟨u, o, h1, h2⟩ := k p e s m args below meth c T C X hT S
  exact ⟨u, o, hstep p e s m args below meth c T C X u h1, h2⟩
theorem W0.aloadN {i : Fin 4} {v : Value} (hd : decode B.2.2.1 pc = .ok (.aload_n i, 1)) (hp : pc + 1 = pc') (hl : ls[i.val]? = some (.val v)) (hv : v.isRef = true) (k : W0 l Z n0 B R Q cells slots σ pc' ls (v :: st)) : W0 l Z n0 B R Q cells slots σ pc ls st := by
  subst hp; exact W0.of (fun p e s m args below meth c T C X t h => XS.aloadN X.here C.1 rfl (hb C.2.1 hd) hl hv h) k
theorem W0.iloadN {i : Fin 4} {v : Int32} (hd : decode B.2.2.1 pc = .ok (.iload_n i, 1)) (hp : pc + 1 = pc') (hl : ls[i.val]? = some (.val (.int v))) (k : W0 l Z n0 B R Q cells slots σ pc' ls (.int v :: st)) : W0 l Z n0 B R Q cells slots σ pc ls st := by
  subst hp; exact W0.of (fun p e s m args below meth c T C X t h => XS.iloadN X.here C.1 rfl (hb C.2.1 hd) hl h) k
theorem W0.ifN {cd : ClassFile.Cond} {x : Int32} {o : Int} (hd : decode B.2.2.1 pc = .ok (.ifCond cd o, 3)) (hc : ifCond.holds cd x = false) (hp : pc + 3 = pc') (k : W0 l Z n0 B R Q cells slots σ pc' ls st) : W0 l Z n0 B R Q cells slots σ pc ls (.int x :: st) := by
  subst hp; exact W0.of (fun p e s m args below meth c T C X t h => XS.ifNo X.here C.1 rfl (hb C.2.1 hd) rfl hc h) k
theorem W0.initO {i : Nat} {a : Addr} (hd : decode B.2.2.1 pc = .ok (.invokespecial i, 3)) (w1 : (Jvm.Cond.methodLink B.1 i Lib.objectInit).before a0 Z = true) (w2 : (Jvm.Cond.instanceMethod Lib.objectInit).before a0 Z = true) (w3 : (Jvm.Cond.code Lib.objectInit object_method_1_code 1 none).before a0 Z = true)
    (hsz : ls.size = B.2.2.2.1) (hf : 1 ≤ R.frames) (hl : (st.map fun v => v.category).sum + 12 ≤ R.locals) (hp : pc + 3 = pc') (k : W0 l Z n0 B R Q cells slots σ pc' ls st) : W0 l Z n0 B R Q cells slots σ pc ls (.ref a :: st) := by
  subst hp
  intro p e s m args below meth c T C X hT S
  obtain ⟨hx, hby, hml, hown, hnm, hZ, hrt, hlk, hV⟩ := id C
  obtain ⟨T', X', e', st'⟩ := RoadKit.initO X hx hZ hown w1 w2 w3 rfl (g := mkF m pc ls (.ref a :: st)) rfl (by rw [hml]; exact hsz) rfl (hb hby hd) hf (W := (st.map fun v => v.category).sum) (by show 2 * 0 + _ ≤ _; omega) hl
  obtain ⟨u, o, h1, h2⟩ := k p e s m args below meth c T' C X' (e'.trans hT) (by rw [e']; exact S)
  exact ⟨u, o, st' u h1, h2⟩
/-! the literal "" -/
theorem strAt {s : State} {args : Array Value} (hZ : Z.Warmed39 s.vm) (wS : ∀ a ∈ Bundle.stringAtoms, a.before a0 Z = true) : ∀ a ∈ Bundle.stringAtoms, a.before args s = true := by
  intro d hd
  have q := wS d hd
  simp only [Bundle.stringAtoms, List.mem_cons, List.not_mem_nil, or_false] at hd
  rcases hd with rfl | rfl | rfl | rfl | rfl | rfl | rfl
  · exact mv hZ q
  · exact mv hZ q
  · exact mvA hZ q
  · exact mv hZ q
  · exact mv hZ q
  · exact mv hZ q
  · exact mv hZ q
theorem no_held {s : State} (h : NoLit s.vm) : ConstHeldL s STR 7 := by
  obtain ⟨c, k, cf, i, text, h1, h2, h3, h4, h5, h6, h7, h8⟩ := h
  intro c' k' cf' i' units a g1 g2 g3 g4 g5 hor
  cases h1.symm.trans g1
  cases h2.symm.trans g2
  cases h3.symm.trans g3
  cases h4.symm.trans g4
  cases h5.symm.trans g5
  rcases hor with q | ⟨-, q⟩
  · rw [h7] at q; cases q
  · rw [h8] at q; cases q
theorem sl_facts {U : State} {a : Addr} {units : Array UInt16} (hal : Z.vm.Alike U.vm) (h : SlOf U a units) :
    ∃ (b : Addr) (SA : Cell), Exa Z U.heap a STR ∧ Fld Z U.heap a STR "coder" "B" (.int 0) ∧ Fld Z U.heap a STR "value" "[B" (.ref b) ∧ Arr Z U.heap b SA .byte ∧ SA.slots = stringBytes units ∧ a ≠ b := by
  obtain ⟨q, cS, rfl, ⟨⟨s1, s2, s3, ⟨cv, kv, iv, s4, s4'⟩, ⟨cc, kc, ic, s5, s5'⟩, s6, s7, s8, s9, s10, s11, s12, s13, s14, s15, s16⟩, hfS, hcS⟩, ⟨kS, k1, k2, k3⟩, hB, hbyt⟩ := h
  obtain ⟨kv', z4⟩ := ff_back hal s4
  obtain ⟨kc', z5⟩ := ff_back hal s5
  have hfZ : Z.vm.findClass STR = some q.sC.cls := by rw [← hal.findClass, hcS]; exact hfS
  obtain ⟨kz, hkz, -⟩ := Vm.findClass_spec hfZ
  obtain ⟨kz', hkz', ekz⟩ := hal.2.2 _ _ hkz
  have ekS : kz' = kS := Option.some.inj (hkz'.symm.trans (hcS ▸ k1))
  have hBZ : Z.vm.findClass "[B" = some q.SA.cls := by rw [← hal.findClass]; exact hB
  obtain ⟨kb, hkb, -⟩ := Vm.findClass_spec hBZ
  obtain ⟨kb', hkb', ekb⟩ := hal.2.2 _ _ hkb
  obtain ⟨hst, k9, hk9, comp, hkind9⟩ := s11
  have ek9 : k9 = kb' := Option.some.inj (hk9.symm.trans hkb')
  have hAZ : Z.isArrayOf q.SA .byte := ⟨hst, kb, hkb, comp, by rw [ek9, ekb] at hkind9; exact hkind9⟩
  exact ⟨q.sd, q.SA, ⟨q.sC, kz, s1, hfZ, hkz, s3, fun ho => by rw [k3, ← ekS, ekz]⟩, ⟨q.sC, cc, kc', ic, q.fSC, s1, z5, s7, s2, s3, by rw [← hal.assignable]; exact s5', s9⟩, ⟨q.sC, cv, kv', iv, q.fSV, s1, z4, s6, s2, s3, by rw [← hal.assignable]; exact s4', s8⟩, ⟨s10, hAZ, s12⟩, hbyt, s15⟩
abbrev own_Str (Z : State) (v0 v1 : Value) : Cell → Prop := ObjP Z STR [(STR, "value", "[B", v0), (STR, "coder", "B", v1)]
theorem str_obj {h : Heap} {a b : Addr} {c : Cell} (hc : h[a]? = some c) (E : Exa Z h a STR) (FC : Fld Z h a STR "coder" "B" (.int 0)) (FV : Fld Z h a STR "value" "[B" (.ref b)) (L1 : Laid Z a0 STR STR "value" "[B") (L2 : Laid Z a0 STR STR "coder" "B") : own_Str Z (.ref b) (.int 0) c := by
  refine ⟨exa_in E hc, fun f hf => ?_, ?_⟩
  · simp only [List.mem_cons, List.not_mem_nil, or_false] at hf
    rcases hf with rfl | rfl
    · exact fld_in FV hc
    · exact fld_in FC hc
  · refine List.Pairwise.cons (fun f hf => ?_) (List.pairwise_singleton _ _)
    simp only [List.mem_cons, List.not_mem_nil, or_false] at hf
    subst hf
    show RoadKit.slotOf Z STR "value" "[B" ≠ RoadKit.slotOf Z STR "coder" "B"
    exact RoadKit.slot_ne L1 L2 (by decide) (t := .array .byte) (t' := .byte) (by decide) (by decide)
theorem find_push {A : Array (Array UInt16 × Addr)} {u : Array UInt16} {a b : Addr} (h0 : A.find? (fun p => p.1 == #[]) = none) (h : (A.push (u, a)).find? (fun p => p.1 == #[]) = some (#[], b)) : u = #[] ∧ a = b := by
  rw [Array.find?_push, h0] at h
  by_cases hu : u = #[]
  · subst hu; simpa using h
  · simp [hu] at h
/-- an entry that was open at s and is resolved to a now: the table finds a -/
theorem noted_find {s : State} {vm : Vm} {c : ClassId} {k k2 : Class} {cf : ClassFile} {i : Nat} {idx : Nat} {units : Array UInt16} {text : String} {a : Addr} (hW : s.Warmed39 vm) (h2 : s.vm.classes[c]? = some k) (h3 : k.cf = some cf) (h4 : cf.constantPool[idx]? = some (.string i)) (h5 : cf.constantPool[i]? = some (.utf8 units)) (h6 : namesOf? cf.constantPool idx = some (.string text)) (h7 : k.resolved[idx]? = some none)
    (g2 : vm.classes[c]? = some k2) (g7 : k2.resolved[idx]? = some (some (.string a))) : vm.interned.find? (fun p => p.1 == units) = some (units, a) := by
  obtain ⟨k', g2', e2, -, ee, -⟩ := hW.2.2.2 _ k h2
  cases g2.symm.trans g2'
  rcases ee idx with e0 | ⟨hop, r, e1, hr | ⟨a', t, si, us, rfl, -, q3, q4, q5⟩⟩
  · rw [e0, h7] at g7; cases g7
  · exfalso
    cases r <;> simp [State.rightAt, h2, h3, h6] at hr
  · rw [h3] at q3 q4
    have e3 : si = i := by
      have := q3.symm.trans h4
      simpa using this
    subst e3
    have e4 : us = units := by simpa [ConstantPool.utf8?, h5] using q4.symm
    subst e4
    have e5 : a' = a := by have := e1.symm.trans g7; simpa using this
    subst e5
    exact q5
/-- 'ldc ""' where nobody has it: a new String and its array -/
theorem W0.ldcF (hB : B.2.2.2.2.2 = some none) (hcl : B.1 = STR) (hd : decode B.2.2.1 pc = .ok (.ldc 7, 2)) (w : (Jvm.Cond.stringLink STR 7 "").before a0 Z = true) (wS : ∀ a ∈ Bundle.stringAtoms, a.before a0 Z = true) (L1 : Laid Z a0 STR STR "value" "[B") (L2 : Laid Z a0 STR STR "coder" "B")
    (hc : cells + 2 ≤ R.cells) (hs : slots + (0 + 4) ≤ R.slots) (hp : pc + 2 = pc')
    (k : ∀ a b, W l Z n0 (B.at (some (some a))) R Q (cells + 2) (slots + (0 + 4)) ((a, own_Str Z (.ref b) (.int 0)) :: (b, IA Z .byte []) :: σ) pc' ls (.ref a :: st)) : W0 l Z n0 B R Q cells slots σ pc ls st := by
  subst hp
  intro p e s m args below meth c T C X hT S
  obtain ⟨hx, hby, hml, hown, hnm, hZ, hrt, hlk, hV⟩ := id C
  rw [hB] at hV
  have hV' : NoLit s.vm := hV
  have hown' : s.vm.findClass STR = some m.cls := by rw [← hcl]; exact hown
  obtain ⟨a, T2, X2, hS2, ⟨kk, hkk, hrr⟩, hkeep, -, hint, ⟨units, htext, hin⟩, st2⟩ := X.ldcColdF (fun b cl h => by rw [hT]; exact h) hx (own := STR) (index := 7) (text := "") hown' (mvS hZ w) (strAt hZ wS) (no_held hV') (fun units hu => Jvm.ClassFile.lat_of_text hu (by simp)) (g := mkF m pc ls st) rfl (hb hby hd) (n := 0) (by decide) (by decide) hc hs
  have hu0 : units = #[] := by
    have := Jvm.ClassFile.units_of_text htext (by simp)
    simpa using this
  subst hu0
  have E : Ext T.heap T2.heap := ext_of hkeep
  have hW2 : Z.Warmed39 T2.vm := State.Warmed39.trans hZ hS2.1
  obtain ⟨q, cS, hqa, hSl, hkS, hB9, hbyt, hloc⟩ := hin
  have hge : T.heap.size ≤ q.sa ∧ T.heap.size ≤ q.sd := by
    rcases hloc with ⟨z1, -⟩ | z
    · exfalso
      obtain ⟨c0, k0, cf, i, text, h1, h2, h3, h4, h5, h6, h7, h8⟩ := hV'
      cases h1.symm.trans hown'
      have hf := noted_find hS2.1 h2 h3 h4 h5 h6 h7 hkk hrr
      have hT8 : T.vm.interned = s.vm.interned := X.warmed.interned_eq
      rcases hint with z2 | ⟨u', a', -, z2⟩
      · rw [z2, hT8, h8] at hf; cases hf
      · rw [z2, hT8] at hf
        obtain ⟨rfl, rfl⟩ := find_push h8 hf
        have hb := hS2.2 s.vm.interned.size (#[], a') (Nat.le_refl _) (by rw [z2, hT8]; simp)
        rw [hqa] at z1
        exact absurd hb.1 (Nat.not_le.mpr z1)
    · exact z
  subst hqa
  have hsl : SlOf T2 q.sa #[] := ⟨q, cS, rfl, hSl, hkS, hB9, hbyt⟩
  have hSl' := hSl
  obtain ⟨b, SA, E1, FC, FV, A1, hSA, hne⟩ := sl_facts hW2.alike hsl
  have hbq : b = q.sd := by
    obtain ⟨c1, f1⟩ := E1
    obtain ⟨cv, cfv, kv, iv, fv, v1, v2, v3, v4, v5, v6, v7⟩ := FV
    obtain ⟨⟨s1, s2, s3, ⟨cv', kv', iv', s4, s4'⟩, -, s6, s7, s8, -⟩, -⟩ := hSl'
    cases v1.symm.trans s1
    obtain ⟨kz, z4⟩ := ff_back (Z := Z) hW2.alike s4
    cases v2.symm.trans z4
    rw [s8] at v7
    simpa using v7.symm
  subst hbq
  obtain ⟨ca, hca⟩ : ∃ ca, T2.heap[q.sa]? = some ca := by obtain ⟨c1, k1, h1, -⟩ := E1; exact ⟨c1, h1⟩
  have hn0 : n0 ≤ T.heap.size := S.size
  have hlt : ∀ x ∈ σ, x.1 < T.heap.size := fun x hx => by
    obtain ⟨-, c', hc', -⟩ := S.2.1 x hx
    exact (Array.getElem?_eq_some_iff.mp hc').1
  have S2 : Sep Z n0 T2.heap.size T2.heap ((q.sa, own_Str Z (.ref q.sd) (.int 0)) :: (q.sd, IA Z .byte []) :: σ) := by
    refine ⟨⟨S.1.1.ext E, Nat.le_refl _⟩, fun x hx => ?_, ?_⟩
    · rcases List.mem_cons.mp hx with rfl | hx
      · exact ⟨Nat.le_trans hn0 hge.1, ca, hca, str_obj hca E1 FC FV L1 L2⟩
      · rcases List.mem_cons.mp hx with rfl | hx
        · exact ⟨Nat.le_trans hn0 hge.2, SA, A1.1, A1.2.1, A1.2.2, by rw [hSA, SBG.stringBytes_lat (by simp)]; simp⟩
        · obtain ⟨g1, c', g2, g3⟩ := S.2.1 x hx
          exact ⟨g1, c', E.2 _ _ g2, g3⟩
    · rw [List.map_cons, List.map_cons, List.nodup_cons, List.nodup_cons]
      refine ⟨fun h => ?_, fun h => ?_, S.2.2⟩
      · rcases List.mem_cons.mp h with h | h
        · exact hne h
        · obtain ⟨x, hx, e⟩ := List.mem_map.mp h
          have := hlt x hx
          rw [e] at this
          exact absurd hge.1 (Nat.not_le.mpr this)
      · obtain ⟨x, hx, e⟩ := List.mem_map.mp h
        have := hlt x hx
        rw [e] at this
        exact absurd hge.2 (Nat.not_le.mpr this)
  have hf2 : T2.vm.findClass STR = some m.cls := by rw [hS2.1.alike.findClass]; exact hown'
  obtain ⟨u, o, h1, h2⟩ := k q.sa q.sd p e s T2.vm T2.heap.size m args below meth c T2 [] ⟨hx, hby, hml, by show T2.vm.findClass B.1 = _; rw [hcl]; exact hf2, hnm, hW2, hrt, hlk, by show Lit (Z.setVm T2.vm) STR 7 q.sa; simp [Lit, State.resolvedAt?, hf2, hkk, hrr]⟩ hS2 X2 (Fr.nil n0) S2
  exact ⟨u, o, st2 u h1, h2⟩
/-- the start answers a for the literal "" -/
def ZL (Z : State) (a : Addr) : Prop := ∃ (c : ClassId) (k : Class) (cf : ClassFile) (i : Nat) (text : String), Z.vm.findClass STR = some c ∧ Z.vm.classes[c]? = some k ∧ k.cf = some cf ∧ cf.constantPool[7]? = some (.string i) ∧ cf.constantPool[i]? = some (.utf8 #[]) ∧ namesOf? cf.constantPool 7 = some (.string text) ∧
  (k.resolved[7]? = some (some (.string a)) ∨ (k.resolved[7]? = some none ∧ Z.vm.interned.find? (fun p => p.1 == #[]) = some (#[], a))) ∧ SlOf Z a #[]
theorem ZL.answer {a b : Addr} {vm : Vm} {c : ClassId} {k : Class} (h : ZL Z a) (hW : Z.Warmed39 vm) (g1 : vm.findClass STR = some c) (g2 : vm.classes[c]? = some k) (hor : k.resolved[7]? = some (some (.string b)) ∨ (k.resolved[7]? = some none ∧ vm.interned.find? (fun p => p.1 == #[]) = some (#[], b))) : b = a := by
  obtain ⟨c0, k0, cf, i, text, h1, h2, h3, h4, h5, h6, h7, -⟩ := h
  rw [hW.alike.findClass, h1] at g1
  cases g1
  have hfin : Z.vm.interned.find? (fun p => p.1 == #[]) = some (#[], a) → vm.interned.find? (fun p => p.1 == #[]) = some (#[], b) → b = a := fun q1 q2 => by
    have := (hW.finds q1).symm.trans q2
    simpa using this.symm
  rcases h7 with h7 | ⟨h7, h8⟩
  · obtain ⟨k', g2', e2, -, ee, -⟩ := hW.2.2.2 _ k0 h2
    cases g2.symm.trans g2'
    rcases ee 7 with e0 | ⟨hop, -⟩
    · rw [e0, h7] at hor
      rcases hor with q | ⟨q, -⟩
      · simpa using q.symm
      · cases q
    · have hop' : k0.resolved[7]? = some none := hop
      rw [h7] at hop'; cases hop'
  · rcases hor with q | ⟨-, q⟩
    · exact hfin h8 (noted_find hW h2 h3 h4 h5 h6 h7 g2 q)
    · exact hfin h8 q
theorem W.forget (k : W l Z n0 (B.at none) R Q cells slots σ pc ls st) : W l Z n0 B R Q cells slots σ pc ls st :=
  fun p e s vm0 k0 m args below meth c T locs C hSi X N S => k p e s vm0 k0 m args below meth c T locs ⟨C.1, C.2.1, C.2.2.1, C.2.2.2.1, C.2.2.2.2.1, C.2.2.2.2.2.1, C.2.2.2.2.2.2.1, C.2.2.2.2.2.2.2.1, trivial⟩ hSi X N S
/-- 'ldc ""' where the start has it -/
theorem W0.ldcZ {a : Addr} (hB : B.2.2.2.2.2 = none) (hz : ZL Z a) (hcl : B.1 = STR) (hd : decode B.2.2.1 pc = .ok (.ldc 7, 2)) (w : (Jvm.Cond.stringLink STR 7 "").before a0 Z = true) (wS : ∀ a ∈ Bundle.stringAtoms, a.before a0 Z = true)
    (hc : cells + 2 ≤ R.cells) (hs : slots + (0 + 4) ≤ R.slots) (hp : pc + 2 = pc')
    (k : W l Z n0 (B.at (some (some a))) R Q (cells + 2) (slots + (0 + 4)) σ pc' ls (.ref a :: st)) : W0 l Z n0 B R Q cells slots σ pc ls st := by
  subst hp
  intro p e s m args below meth c T C X hT S
  obtain ⟨hx, hby, hml, hown, hnm, hZ, hrt, hlk, -⟩ := id C
  have hown' : s.vm.findClass STR = some m.cls := by rw [← hcl]; exact hown
  have hH : ConstHeldL s STR 7 := by
    obtain ⟨c0, k0, cf, i, text, h1, h2, h3, h4, h5, h6, h7, h8⟩ := id hz
    intro c' k' cf' i' units b g1 g2 g3 g4 g5 hor
    have g1' := g1
    rw [hZ.alike.findClass, h1] at g1'
    cases g1'
    obtain ⟨k'', g2', e2⟩ := hZ.alike.2.2 _ _ h2
    cases g2.symm.trans g2'
    have ecf : k'.cf = some cf := by rw [e2]; exact h3
    cases ecf.symm.trans g3
    cases h4.symm.trans g4
    cases h5.symm.trans g5
    obtain rfl := hz.answer hZ g1 g2 hor
    exact h8.moved hZ.alike (fun b cl hb => by rw [← hT]; exact S.1.1.2.2 _ _ hb)
  obtain ⟨b, T2, X2, hS2, ⟨kk, hkk, hrr⟩, hkeep, -, -, -, st2⟩ := X.ldcColdF (fun b cl h => by rw [hT]; exact h) hx (own := STR) (index := 7) (text := "") hown' (mvS hZ w) (strAt hZ wS) hH (fun units hu => Jvm.ClassFile.lat_of_text hu (by simp)) (g := mkF m pc ls st) rfl (hb hby hd) (n := 0) (by decide) (by decide) hc hs
  have E : Ext T.heap T2.heap := ext_of hkeep
  have hW2 : Z.Warmed39 T2.vm := State.Warmed39.trans hZ hS2.1
  have hf2 : T2.vm.findClass STR = some m.cls := by rw [hS2.1.alike.findClass]; exact hown'
  obtain rfl := hz.answer hW2 hf2 hkk (Or.inl hrr)
  obtain ⟨u, o, h1, h2⟩ := k p e s T2.vm T2.heap.size m args below meth c T2 [] ⟨hx, hby, hml, by show T2.vm.findClass B.1 = _; rw [hcl]; exact hf2, hnm, hW2, hrt, hlk, by show Lit (Z.setVm T2.vm) STR 7 b; simp [Lit, State.resolvedAt?, hf2, hkk, hrr]⟩ hS2 X2 (Fr.nil n0) ((S.ext E).low (Nat.le_refl _))
  exact ⟨u, o, st2 u h1, h2⟩
/-- 'ldc ""' where this run has loaded it -/
theorem W.ldcL {a : Addr} (hB : B.2.2.2.2.2 = some (some a)) (hcl : B.1 = STR) (hd : decode B.2.2.1 pc = .ok (.ldc 7, 2)) (w : (Jvm.Cond.stringLink STR 7 "").before a0 Z = true) (hp : pc + 2 = pc') (k : W l Z n0 B R Q cells slots σ pc' ls (.ref a :: st)) : W l Z n0 B R Q cells slots σ pc ls st := by
  subst hp
  refine W.of (fun p e s m args below meth c T locs C X t h => ?_) k
  have hL := C.2.2.2.2.2.2.2.2
  rw [hB] at hL
  exact ldcAgain (s := s) (vm0 := s.vm) (Z := Z) X C.1 C.2.2.2.2.2.1 (own := STR) (text := "") (by rw [← hcl]; exact C.2.2.2.1) w hL (g := mkF m pc ls st) rfl (hb C.2.1 hd) t h
/-- 'ldc' of another text: some String; the state of "" stays -/
theorem W.ldcK {idx : Nat} {text : String} (nn : Nat) (htx : text ≠ "") (hd : decode B.2.2.1 pc = .ok (.ldc idx, 2)) (w : (Jvm.Cond.stringLink B.1 idx text).before a0 Z = true) (wS : ∀ a ∈ Bundle.stringAtoms, a.before a0 Z = true) (hn : 4 * text.toList.length ≤ nn) (hbig : nn ≤ 536870912)
    (hc : cells + 2 ≤ R.cells) (hs : slots + (nn + 4) ≤ R.slots) (hp : pc + 2 = pc') (k : ∀ a, W l Z n0 B R Q (cells + 2) (slots + (nn + 4)) σ pc' ls (.ref a :: st)) : W l Z n0 B R Q cells slots σ pc ls st := by
  subst hp
  intro p e s vm0 k0 m args below meth c T locs C hSi X N S
  obtain ⟨hx, hby, hml, hown, hnm, hZ, hrt, hlk, hV⟩ := id C
  have hdg : decode c.code pc = .ok (.ldc idx, 2) := hb hby hd
  obtain ⟨kc, cf, i, units, hk, hcf, hcp, hu, hnmo, hdec, hres⟩ := Cond.stringLink_spec (s := s.setVm vm0) (args := args) hown (mvS (s := s.setVm vm0) hZ w)
  have hune : units ≠ #[] := by
    rintro rfl
    have := Jvm.ClassFile.units_of_text (text := "") (units := #[]) (by rfl) (by simp)
    have h0 : utf16ToString? #[] = some "" := by rfl
    rw [h0] at hdec
    exact htx (Option.some.inj hdec).symm
  obtain ⟨k', hk', he⟩ := X.warmed.alike.2.2 _ _ hk
  have hcf' : k'.cf = some cf := by rw [he]; exact hcf
  have hTi : T.vm.interned = vm0.interned := X.warmed.interned_eq
  have hnow : (k'.resolved[idx]? = some none ∧ kc.resolved[idx]? = some none) ∨ ∃ a, k'.resolved[idx]? = some (some (.string a)) := by
    obtain ⟨k'', ha'', -, -, ee, -⟩ := X.warmed.wide.2.2.2 _ kc hk
    cases hk'.symm.trans ha''
    rcases ee idx with e0 | ⟨hop, r, e1, hr | ⟨a, t, si, us, rfl, -⟩⟩
    · rcases hres with h0 | ⟨a, h0⟩
      · exact Or.inl ⟨e0.trans h0, h0⟩
      · exact Or.inr ⟨a, e0.trans h0⟩
    · exfalso
      cases r <;> simp [State.rightAt, show vm0.classes[m.cls]? = some kc from hk, hcf, hnmo] at hr
    · exact Or.inr ⟨a, e1⟩
  have X5 : Stand p l e R (s.setVm vm0) m args below meth c T locs (cells + 2) (slots + (nn + 4)) := X.mono (by omega) (by omega)
  rcases hnow with ⟨hopen, hopen0⟩ | ⟨a, hr'⟩
  · cases hf : T.vm.interned.find? (fun p => p.1 == units) with
    | some pr =>
      obtain ⟨u', a⟩ := pr
      have hu' : u' = units := by
        have := Array.find?_some hf
        simpa using this
      subst hu'
      have q2 : kc.cf.bind (namesOf? ·.constantPool idx) = some (.string text) := by rw [hcf]; exact hnmo
      have q3 : kc.cf.bind (·.constantPool[idx]?) = some (.string i) := by rw [hcf]; exact hcp
      have q4 : kc.cf.bind (·.constantPool.utf8? i) = some u' := by rw [hcf]; simp [ConstantPool.utf8?, hu]
      have hW : (s.setVm vm0).Warmed39 (T.vm.noted m.cls idx (.string a)) := X.warmed.wide.notedString hk (Or.inl hopen0) q2 q3 q4 hf
      obtain ⟨u, o, h1, h2⟩ := W.behind (B := B) (B' := B) (w := B.2.2.2.2.2) (T := T) (U := T.setVm (T.vm.noted m.cls idx (.string a))) rfl C hSi S.1.2 (X5.retabled hW) ⟨hW, X.warmed.no_new_pair _⟩ (Nat.le_refl _) N (hV.wide hW (fun q => by show T.vm.interned.find? _ = none; rw [hTi]; exact q)) (S.low (Nat.zero_le _)) (k a)
      refine ⟨u, o, ?_, h2⟩
      jvm_step X.here [hx, hdg, mkF, ldc.wp_string_found (e := e) (s := T) (f := mkF m pc ls st) X.here.top hk' hcf' hcp hu hopen hf]
      exact h1
    | none =>
      obtain ⟨a, T2, X2, hS2, ⟨kk, hkk, hrr⟩, hkeep, hI1, st2⟩ := X.ldcStringCold hx (own := B.1) (text := text) hown (mvS (s := s.setVm vm0) hZ w) (strAt (s := s.setVm vm0) hZ wS) (g := mkF m pc ls st) rfl hdg hn hbig hc hs
      have E : Ext T.heap T2.heap := ext_of hkeep
      have hfa := noted_find hS2.1 hk hcf hcp hu hnmo hopen0 hkk hrr
      have hfn : (s.setVm vm0).vm.interned.find? (fun p => p.1 == #[]) = none → T2.vm.interned.find? (fun p => p.1 == #[]) = none := fun q => by
        have q' : T.vm.interned.find? (fun p => p.1 == #[]) = none := by rw [hTi]; exact q
        rcases hI1.2 with z | ⟨u', a', z, -⟩
        · rw [z]; exact q'
        · rw [z, Array.find?_push, hf] at hfa
          have hu' : u' = units := by
            by_cases hh : u' = units
            · exact hh
            · simp [hh] at hfa
          rw [z, Array.find?_push, q']; simp [hu', hune]
      obtain ⟨u, o, h1, h2⟩ := W.behind (B := B) (B' := B) (w := B.2.2.2.2.2) (T := T) rfl C hSi S.1.2 X2 hS2 hI1.1 N (hV.wide hS2.1 hfn) ((S.ext E).low (Nat.zero_le _)) (k a)
      exact ⟨u, o, st2 u h1, h2⟩
  · obtain ⟨u, o, h1, h2⟩ := k a p e s vm0 k0 m args below meth c T locs C hSi X5 N S
    refine ⟨u, o, ?_, h2⟩
    jvm_step X.here [hx, hdg, mkF, ldc.wp_string (e := e) (s := T) (f := mkF m pc ls st) X.here.top hk' hcf' hcp hr']
    exact h1
/-! what stands in σ, by membership -/
theorem Sep.mem {k0 : Nat} {h : Heap} {a : Addr} {P : Cell → Prop} (S : Sep Z n0 k0 h σ) (hm : (a, P) ∈ σ) : ∃ c : Cell, h[a]? = some c ∧ P c := (S.2.1 _ hm).2
theorem W.getM (j : Nat) {idx : Nat} {a : Addr} {C R0 O n d host : String} {fs : List (String × String × String × Value)} {v : Value} (hm : (a, ObjP Z C fs) ∈ σ) (hd : decode B.2.2.1 pc = .ok (.getfield idx, 3)) (w : (Jvm.Cond.fieldLink B.1 idx R0 n d).before a0 Z = true ∨ (Jvm.Cond.fieldLinkNest B.1 idx R0 n d host).before a0 Z = true) (via : Via Z R0 O n d)
    (hf : fs[j]? = some (O, n, d, v)) (hp : pc + 3 = pc') (k : W l Z n0 B R Q cells slots σ pc' ls (v :: st)) : W l Z n0 B R Q cells slots σ pc ls (.ref a :: st) := by
  obtain ⟨i, hi⟩ := List.mem_iff_getElem?.mp hm
  exact W.getF i j hd w via hi hf hp k
theorem W.castM {idx : Nat} {a : Addr} {K : String} {fs : List (String × String × String × Value)} (hm : (a, ObjP Z K fs) ∈ σ) (hd : decode B.2.2.1 pc = .ok (.checkcast idx, 3)) (w : (Jvm.Cond.classLink B.1 idx K).before a0 Z = true) (hp : pc + 3 = pc') (k : W l Z n0 B R Q cells slots σ pc' ls (.ref a :: st)) : W l Z n0 B R Q cells slots σ pc ls (.ref a :: st) := by
  subst hp
  refine W.of2 (fun k0 p e s m args below meth c T locs ⟨hx, hby, hml, hown, hnm, hZ, hrt, hlk⟩ X N S => ?_) k
  obtain ⟨c1, hc1, H⟩ := S.mem hm
  obtain ⟨T', X', e', st'⟩ := RoadKit.castY X hx hZ hown w rfl (Ins.self (exa_out H.1 hc1)) (g := mkF m pc ls (.ref a :: st)) rfl rfl (hb hby hd)
  exact ⟨T', locs, X', N, by rw [e']; exact S, st'⟩
theorem W.instY {idx : Nat} {a : Addr} {K : String} {fs : List (String × String × String × Value)} (hm : (a, ObjP Z K fs) ∈ σ) (hd : decode B.2.2.1 pc = .ok (.instanceof idx, 3)) (w : (Jvm.Cond.classLink B.1 idx K).before a0 Z = true) (hp : pc + 3 = pc') (k : W l Z n0 B R Q cells slots σ pc' ls (.int 1 :: st)) : W l Z n0 B R Q cells slots σ pc ls (.ref a :: st) := by
  subst hp
  refine W.of2 (fun k0 p e s m args below meth c T locs ⟨hx, hby, hml, hown, hnm, hZ, hrt, hlk⟩ X N S => ?_) k
  obtain ⟨c1, hc1, H⟩ := S.mem hm
  obtain ⟨T', X', e', st'⟩ := RoadKit.instY X hx hZ hown w rfl (Ins.self (exa_out H.1 hc1)) (g := mkF m pc ls (.ref a :: st)) rfl rfl (hb hby hd)
  exact ⟨T', locs, X', N, by rw [e']; exact S, st'⟩
theorem W.instN {idx : Nat} {a : Addr} {C K : String} {fs : List (String × String × String × Value)} (hm : (a, ObjP Z C fs) ∈ σ) (F : ∃ c t, Z.vm.findClass C = some c ∧ Z.vm.findClass K = some t ∧ Z.vm.assignable c t = false) (hd : decode B.2.2.1 pc = .ok (.instanceof idx, 3)) (w : (Jvm.Cond.classLink B.1 idx K).before a0 Z = true) (hp : pc + 3 = pc') (k : W l Z n0 B R Q cells slots σ pc' ls (.int 0 :: st)) : W l Z n0 B R Q cells slots σ pc ls (.ref a :: st) := by
  subst hp
  refine W.of2 (fun k0 p e s m args below meth c T locs ⟨hx, hby, hml, hown, hnm, hZ, hrt, hlk⟩ X N S => ?_) k
  obtain ⟨c1, hc1, H⟩ := S.mem hm
  obtain ⟨T', X', e', st'⟩ := RoadKit.instNo X hx hZ hown w rfl (exa_out H.1 hc1) F (g := mkF m pc ls (.ref a :: st)) rfl rfl (hb hby hd)
  exact ⟨T', locs, X', N, by rw [e']; exact S, st'⟩
theorem W.instNull {idx : Nat} (hd : decode B.2.2.1 pc = .ok (.instanceof idx, 3)) (hp : pc + 3 = pc') (k : W l Z n0 B R Q cells slots σ pc' ls (.int 0 :: st)) : W l Z n0 B R Q cells slots σ pc ls (.null :: st) := by
  subst hp
  exact W.of (fun p e s m args below meth c T locs C X t h => X.instanceofNull C.1 (g := mkF m pc ls (.null :: st)) rfl rfl (hb C.2.1 hd) t h) k
theorem no_table {K : String} {kk : Nat} (w1 : (Jvm.Cond.superclass STR "java/lang/Object").before a0 Z = true) (w0 : (Jvm.Cond.noSuperclass "java/lang/Object").before a0 Z = true) (wk : (Jvm.Cond.instantiable K kk).before a0 Z = true) (hn1 : "java/lang/Object" ≠ K) (hn2 : STR ≠ K) : ∃ c t, Z.vm.findClass STR = some c ∧ Z.vm.findClass K = some t ∧ Z.vm.assignable c t = false := by
  obtain ⟨o, ko, h1, h2, h3, -, -⟩ := Cond.noSuperclass_spec w0
  obtain ⟨t, kt, g1, g2, g3, g4, -, -⟩ := Cond.instantiable_spec wk
  obtain ⟨c, h0⟩ := found_sup w1
  obtain ⟨p, k, kp, f1, f2, f3, f4, f5, -, f7⟩ := Cond.superclass_spec h0 w1
  cases h1.symm.trans f1
  have ne1 := ids_ne h1 g1 hn1
  have ne2 := ids_ne h0 g1 hn2
  have r1 : ∀ fuel, Z.vm.isSubclassAux fuel o t = false := fun fuel => by
    cases fuel with
    | zero => rfl
    | succ f => simp [Vm.isSubclassAux, ne1, h2, h3]
  have r2 : ∀ fuel, Z.vm.isSubclassAux fuel c t = false := fun fuel => by
    cases fuel with
    | zero => rfl
    | succ f => simp [Vm.isSubclassAux, ne2, f2, f4, r1]
  refine ⟨c, t, h0, g1, ?_⟩
  show Z.vm.assignableAux (255 + 1) c t = false
  simp [Vm.assignableAux, ne2, f2, g2, f5, g3, (Bool.or_eq_false_iff.mp g4).1, Vm.isSubclass, r2]
/-- a byte array whose content is known: of the start, or in σ -/
def RdA (Z : State) (σ : Asn) (b : Addr) (xs : List Int32) : Prop := (∃ cl : Cell, Arr Z Z.heap b cl .byte ∧ cl.slots.toList = xs.map Value.int) ∨ (b, IA Z .byte xs) ∈ σ
theorem RdA.mono {σ' : Asn} {b : Addr} {xs : List Int32} (h : RdA Z σ b xs) (hs : ∀ x ∈ σ, x ∈ σ') : RdA Z σ' b xs := h.imp id (hs _)
theorem RdA.at {k0 : Nat} {h : Heap} {b : Addr} {xs : List Int32} (H : RdA Z σ b xs) (S : Sep Z n0 k0 h σ) : ∃ cl : Cell, Arr Z h b cl .byte ∧ cl.slots.toList = xs.map Value.int := by
  rcases H with ⟨cl, A, e⟩ | hm
  · exact ⟨cl, A.ext S.1.1.2, e⟩
  · obtain ⟨c, hc, H1, H2, H3⟩ := S.mem hm
    exact ⟨c, ⟨hc, H1, H2⟩, H3⟩
theorem W.lenM {b : Addr} {xs : List Int32} (v : Int32) (H : RdA Z σ b xs) (hd : decode B.2.2.1 pc = .ok (.arraylength, 1)) (hv : xs.length.toInt32 = v) (hp : pc + 1 = pc') (k : W l Z n0 B R Q cells slots σ pc' ls (.int v :: st)) : W l Z n0 B R Q cells slots σ pc ls (.ref b :: st) := by
  subst hp hv
  refine W.of2 (fun k0 p e s m args below meth c T locs ⟨hx, hby, hml, hown, hnm, hZ, hrt, hlk⟩ X N S => ?_) k
  obtain ⟨c1, A, H3⟩ := H.at S
  refine ⟨T, locs, X, N, S, fun t ht => X.arraylength hx A.1 (State.isArrayOf_alike hZ.alike A.2.1) (g := mkF m pc ls (.ref b :: st)) rfl rfl (hb hby hd) t ?_⟩
  have e : c1.slots.size = xs.length := by rw [← Array.length_toList, H3, List.length_map]
  rw [e]; exact ht
theorem W.baloadM (n : Nat) {b : Addr} {xs : List Int32} {j x : Int32} (H : RdA Z σ b xs) (hd : decode B.2.2.1 pc = .ok (.baload, 1)) (h0 : ¬ j < 0) (hn : j.toNatClampNeg = n) (hx : xs[n]? = some x) (hp : pc + 1 = pc') (k : W l Z n0 B R Q cells slots σ pc' ls (.int x :: st)) : W l Z n0 B R Q cells slots σ pc ls (.int j :: .ref b :: st) := by
  subst hp
  refine W.of2 (fun k0 p e s m args below meth c T locs ⟨hx', hby, hml, hown, hnm, hZ, hrt, hlk⟩ X N S => ?_) k
  obtain ⟨c1, A, H3⟩ := H.at S
  obtain ⟨g1, g2⟩ := slot_get (n := n) (v := .int x) H3 (by rw [List.getElem?_map, hx]; rfl)
  exact ⟨T, locs, X, N, S, fun t ht => X.baloadBytes hx' A.1 (State.isArrayOf_alike hZ.alike A.2.1) A.2.2 (slot_in h0 hn g2) (by rw [hn]; exact g1) (g := mkF m pc ls (.int j :: .ref b :: st)) rfl rfl (hb hby hd) t ht⟩
/-- two descriptions of one String agree -/
theorem W.sameS {q q' b b' : Addr} {v v' : Value} {xs ys : List Int32} (hq : (q, own_Str Z (.ref b) v) ∈ σ) (hq' : (q', own_Str Z (.ref b') v') ∈ σ) (hA : RdA Z σ b xs) (hA' : RdA Z σ b' ys) (k : (q = q' → xs = ys) → W l Z n0 B R Q cells slots σ pc ls st) : W l Z n0 B R Q cells slots σ pc ls st := by
  intro p e s vm0 k0 m args below meth c T locs C hSi X N S
  refine k (fun e => ?_) p e s vm0 k0 m args below meth c T locs C hSi X N S
  subst e
  obtain ⟨c1, g1, H1⟩ := S.mem hq
  obtain ⟨c2, g2, H2⟩ := S.mem hq'
  cases g1.symm.trans g2
  obtain ⟨ce, f1, k1, i1, fd, a1, a2, -, -, -, -, a7⟩ := H1.2.1 (STR, "value", "[B", .ref b) (List.mem_cons_self ..)
  obtain ⟨ce', f1', k1', i1', fd', b1, b2, -, -, -, -, b7⟩ := H2.2.1 (STR, "value", "[B", .ref b') (List.mem_cons_self ..)
  cases a1.symm.trans b1
  cases a2.symm.trans b2
  rw [a7] at b7
  obtain rfl : b = b' := by simpa using b7
  obtain ⟨d1, A1, e1⟩ := hA.at S
  obtain ⟨d2, A2, e2⟩ := hA'.at S
  cases A1.1.symm.trans A2.1
  have := e1.symm.trans e2
  exact (List.map_inj_right (fun x y h => by simpa using h)).mp this
theorem W.getFO {idx : Nat} {a : Addr} {R0 O n d host : String} {v : Value} (F : Fld Z Z.heap a O n d v) (hd : decode B.2.2.1 pc = .ok (.getfield idx, 3)) (w : (Jvm.Cond.fieldLink B.1 idx R0 n d).before a0 Z = true ∨ (Jvm.Cond.fieldLinkNest B.1 idx R0 n d host).before a0 Z = true) (via : Via Z R0 O n d) (hp : pc + 3 = pc') (k : W l Z n0 B R Q cells slots σ pc' ls (v :: st)) : W l Z n0 B R Q cells slots σ pc ls (.ref a :: st) := by
  subst hp
  refine W.of2 (fun k0 p e s m args below meth c T locs ⟨hx, hby, hml, hown, hnm, hZ, hrt, hlk⟩ X N S => ?_) k
  obtain ⟨T', X', e', st'⟩ := RoadKit.getF X hx hZ hown w via rfl (F.ext S.1.1.2) (g := mkF m pc ls (.ref a :: st)) rfl rfl (hb hby hd)
  exact ⟨T', locs, X', N, by rw [e']; exact S, st'⟩
theorem ZL.facts {a : Addr} (h : ZL Z a) : ∃ b, Fld Z Z.heap a STR "coder" "B" (.int 0) ∧ Fld Z Z.heap a STR "value" "[B" (.ref b) ∧ ∀ σ, RdA Z σ b [] := by
  obtain ⟨-, -, -, -, -, -, -, -, -, -, -, -, hs⟩ := h
  obtain ⟨b, SA, -, FC, FV, A1, hSA, -⟩ := sl_facts (Vm.Alike.refl _) hs
  exact ⟨b, FC, FV, fun σ => Or.inl ⟨SA, A1, by rw [hSA, SBG.stringBytes_lat (by simp)]; simp⟩⟩
/-- what the literal's state says of σ -/
def own_HU (Z : State) (u : Lst) (σ : Asn) : Prop :=
  match u with
  | none => ∃ a, ZL Z a
  | some none => True
  | some (some a) => ∃ b, (a, own_Str Z (.ref b) (.int 0)) ∈ σ ∧ (b, IA Z .byte []) ∈ σ
theorem own_HU.mono {u : Lst} {σ' : Asn} (h : own_HU Z u σ) (hs : ∀ x ∈ σ, x ∈ σ') : own_HU Z u σ' := by
  match u, h with
  | none, h => exact h
  | some none, _ => trivial
  | some (some a), ⟨b, h1, h2⟩ => exact ⟨b, hs _ h1, hs _ h2⟩
theorem Sp.mono {u : Lst} {y : MethodName} {bytes : ByteArray} {maxL : Nat} {ret : Option FieldType} {as : List Value} {Q' : Lst → Option Value → Asn → Prop} (hQ : ∀ w v σ', Q w v σ' → Q' w v σ') (k : Sp l Z n0 u y bytes maxL ret R as σ Q) : Sp l Z n0 u y bytes maxL ret R as σ Q' := by
  intro ws h0 hS p e ha hc hk s m args below hf happ hP hK
  obtain ⟨n, o, h1, h2, h3, v, L, h4, ⟨⟨w, σ', h5, h6⟩, h7⟩, h8⟩ := k ws h0 hS p e ha hc hk s m args below hf happ hP hK
  exact ⟨n, o, h1, h2, h3, v, L, h4, ⟨⟨w, σ', hQ _ _ _ h5, h6⟩, h7⟩, h8⟩
/-- an empty String was made at s; F0: what of F the texts may lie in -/
def own_QE (Z : State) (F F0 : Asn) (s : Addr) : Lst → Option Value → Asn → Prop := fun w v σ' => v = none ∧ ∃ b E, σ' = (s, own_Str Z (.ref b) (.int 0)) :: (E ++ F) ∧ RdA Z (E ++ F0) b [] ∧ own_HU Z w (E ++ F0)
/-- a String with the text xs was made -/
def own_QS (Z : State) (F F0 : Asn) (xs : List Int32) : Lst → Option Value → Asn → Prop := fun w v σ' => ∃ q b E, v = some (.ref q) ∧ σ' = (q, own_Str Z (.ref b) (.int 0)) :: (E ++ F) ∧ RdA Z (E ++ F0) b xs ∧ own_HU Z w (E ++ F0)
/-- bring one object to the front; the rest gets a name -/
theorem W.mid {z : Addr × (Cell → Prop)} (L R2 : Asn) (hσ : σ = L ++ z :: R2) (k : ∀ τ, τ = L ++ R2 → W l Z n0 B R Q cells slots (z :: τ) pc ls st) : W l Z n0 B R Q cells slots σ pc ls st := by
  subst hσ
  exact W.conv (fun k0 h S => ⟨S.1, fun y hy => S.2.1 y (List.perm_middle.mem_iff.mpr hy), (List.Perm.nodup_iff (List.perm_middle.map _)).mp S.2.2⟩) (k _ rfl)
/-- all that is needed of σ, then a name for it -/
theorem W.gen (P : Asn → Prop) (h : P σ) (k : ∀ τ, P τ → W l Z n0 B R Q cells slots τ pc ls st) : W l Z n0 B R Q cells slots σ pc ls st := k σ h
theorem W.callVM {y : MethodName} {bytes : ByteArray} {maxL : Nat} {ret : Option FieldType} {rm : Room} {a : Addr} {C : String} {fs : List (String × String × String × Value)} {as : List Value} {Qc : Lst → Option Value → Asn → Prop} {i : Nat} {sg : MethodDescriptor} (hm : (a, ObjP Z C fs) ∈ σ) (hS : Sp l Z n0 B.2.2.2.2.2 y bytes maxL ret rm (.ref a :: as) σ Qc)
    (hd : decode B.2.2.1 pc = .ok (.invokevirtual i, 3)) (w1 : (Jvm.Cond.methodLink B.1 i y).before a0 Z = true) (wd : (Jvm.Cond.declares y).before a0 Z = true) (wsl : (Jvm.Cond.selects C y y).before a0 Z = true) (w2 : (Jvm.Cond.instanceMethod y).before a0 Z = true) (wz : (Jvm.Cond.initialized y.cls).before a0 Z = true) (wc : (Jvm.Cond.code y bytes maxL ret).before a0 Z = true) (hyc : y.cls = C)
    (hy : y.cls ≠ "java/lang/invoke/MethodHandle" ∧ y.cls ≠ "java/lang/invoke/VarHandle") (hsg : parseMethodDescriptor y.desc = some sg) (hln : as.length = sg.parameters.length) (hst : st = as.reverse ++ .ref a :: rest)
    (hf : rm.frames + 1 ≤ R.frames) (hl : (rest.map fun v => v.category).sum + (maxL + 11) + rm.locals ≤ R.locals) (hc : cells + rm.cells ≤ R.cells) (hs : slots + rm.slots ≤ R.slots) (hsz : ls.size = B.2.2.2.1) (hp : pc + 3 = pc')
    (k : ∀ w v σ', Qc w v σ' → W l Z n0 (B.at w) R Q (cells + rm.cells) (slots + rm.slots) σ' pc' ls (v.toList ++ rest)) : W l Z n0 B R Q cells slots σ pc ls st := by
  obtain ⟨j, hj⟩ := List.mem_iff_getElem?.mp hm
  exact W.callV j hj hS hd w1 wd wsl w2 wz wc hyc hy hsg hln hst hf hl hc hs hsz hp k
end S0
theorem wd {L : List Jvm.Cond} {a0 : Array Value} {Z : State} (hw : ∀ d ∈ L, d.before a0 Z = true) (i : Nat) {d : Jvm.Cond} (h : L[i]? = some d) : d.before a0 Z = true := hw d (List.mem_of_getElem? h)
/-- it returns just this, and the heap is known as this -/
abbrev Ret (u : Lst) (v : Option Value) (τ : Asn) : Lst → Option Value → Asn → Prop := fun w' v' σ' => u = w' ∧ v' = v ∧ σ' = τ
abbrev own_Tab (Z : State) (v0 : Value) (v1 : Value) : Cell → Prop := ObjP Z "com/example/lost_update_guard/lostupdateguard/Cascades$Table" [("com/example/lost_update_guard/lostupdateguard/Cascades$Table", "schema", "Ljava/lang/String;", v0), ("com/example/lost_update_guard/lostupdateguard/Cascades$Table", "name", "Ljava/lang/String;", v1)]
theorem own_put {E F0 : Asn} : ∀ (c : Addr × (Cell → Prop)) (z : Addr × (Cell → Prop)), z ∈ E ++ F0 → z ∈ E ++ [c] ++ F0 := by
  intro c z hz
  rcases List.mem_append.mp hz with h | h
  · exact List.mem_append_left _ (List.mem_append_left _ h)
  · exact List.mem_append_right _ h
theorem own_wS {a0 : Array Value} {Z : State} (hw : ∀ d ∈ tables_1, d.before a0 Z = true) : ∀ d ∈ Bundle.stringAtoms, d.before a0 Z = true := by
  intro d hd
  simp only [Bundle.stringAtoms, Bundle.sN, List.mem_cons, List.not_mem_nil, or_false] at hd
  rcases hd with rfl | rfl | rfl | rfl | rfl | rfl | rfl
  all_goals exact hw _ (by simp [tables_1])
def own_c (x k : Int32) : Int32 := nar .char (XT.ushr x k &&& 255)
def own_b (x k : Int32) : Int32 := nar .byte (own_c x k).toInt8.toInt32
def own_txt (x : Int32) : List Int32 := if x &&& 3 = 0 then [] else if x &&& 3 = 1 then [own_b x 2] else if x &&& 3 = 2 then [own_b x 2, own_b x 10] else [own_b x 2, own_b x 10, own_b x 18]
theorem own_c_eq (x k : Int32) : own_c x k = XT.ushr x k &&& 255 := i2c_mask _
theorem own_c255 (x k : Int32) : ¬ 255 < own_c x k := by
  rw [own_c_eq]
  have h := c_mask (XT.ushr x k) 255 8 (by decide) (by decide)
  have h0 : (255 : Int32).toInt = 255 := by decide
  rw [Int32.lt_iff_toInt_lt, h, h0]; omega
theorem own_inv : ∀ i : Fin 256, (nar .byte (Int32.ofNat i.val).toInt8.toInt32) &&& 255 = Int32.ofNat i.val := by decide +kernel
theorem own_and3 (x : Int32) : x &&& 3 = 0 ∨ x &&& 3 = 1 ∨ x &&& 3 = 2 ∨ x &&& 3 = 3 := by
  have h := c_mask x 3 2 (by decide) (by decide)
  have e0 : (0 : Int32).toInt = 0 := by decide
  have e1 : (1 : Int32).toInt = 1 := by decide
  have e2 : (2 : Int32).toInt = 2 := by decide
  have e3 : (3 : Int32).toInt = 3 := by decide
  rw [← Int32.toInt_inj, ← Int32.toInt_inj, ← Int32.toInt_inj, ← Int32.toInt_inj, h, e0, e1, e2, e3]
  omega
theorem own_bc (x k : Int32) : own_b x k &&& 255 = XT.ushr x k &&& 255 := by
  have h := c_mask (XT.ushr x k) 255 8 (by decide) (by decide)
  have h2 : ((XT.ushr x k &&& 255).toInt).toNat < 256 := by rw [h]; omega
  have h3 : XT.ushr x k &&& 255 = Int32.ofNat ((XT.ushr x k &&& 255).toInt).toNat := by
    rw [← Int32.toInt_inj, Int32.toInt_ofNat_small (by omega)]
    have : 0 ≤ (XT.ushr x k &&& 255).toInt := by rw [h]; omega
    omega
  unfold own_b
  rw [own_c_eq]
  have := own_inv ⟨_, h2⟩
  rw [← h3] at this
  exact this
theorem own_bi (x y k : Int32) : own_b x k = own_b y k ↔ XT.ushr x k &&& 255 = XT.ushr y k &&& 255 := by
  constructor
  · intro h; rw [← own_bc, ← own_bc, h]
  · intro h; unfold own_b; rw [own_c_eq, own_c_eq, h]
theorem own_len (x : Int32) : (own_txt x).length.toInt32 = x &&& 3 := by
  rcases own_and3 x with h | h | h | h <;> simp [own_txt, h] <;> rfl
theorem own_len4 (x : Int32) : (own_txt x).length < 4 := by
  rcases own_and3 x with h | h | h | h <;> simp [own_txt, h]
theorem own_s3 {x y : Int32} (h : own_txt x = own_txt y) : x &&& 3 = y &&& 3 := by rw [← own_len, ← own_len, h]
theorem own_s0 {x y : Int32} (h : x &&& 3 = y &&& 3) (h0 : x &&& 3 = 0) : own_txt x = own_txt y := by simp [own_txt, ← h, h0]
theorem own_s1 {x y : Int32} (h : x &&& 3 = y &&& 3) (h0 : x &&& 3 = 1) : own_txt x = own_txt y ↔ XT.ushr x 2 &&& 255 = XT.ushr y 2 &&& 255 := by simp [own_txt, ← h, h0, own_bi]
theorem own_s2 {x y : Int32} (h : x &&& 3 = y &&& 3) (h0 : x &&& 3 = 2) : own_txt x = own_txt y ↔ XT.ushr x 2 &&& 255 = XT.ushr y 2 &&& 255 ∧ XT.ushr x 10 &&& 255 = XT.ushr y 10 &&& 255 := by simp [own_txt, ← h, h0, own_bi]
theorem own_sl {x y : Int32} (h : x &&& 3 = y &&& 3) (h0 : ¬ x &&& 3 = 0) (h1 : ¬ x &&& 3 = 1) (h2 : ¬ x &&& 3 = 2) : own_txt x = own_txt y ↔ XT.ushr x 2 &&& 255 = XT.ushr y 2 &&& 255 ∧ XT.ushr x 10 &&& 255 = XT.ushr y 10 &&& 255 ∧ XT.ushr x 18 &&& 255 = XT.ushr y 18 &&& 255 := by simp [own_txt, ← h, h0, h1, h2, own_bi]
theorem own_lne {a b : Nat} (ha : a < 4) (hb : b < 4) (h : a ≠ b) : ¬ a.toInt32 = b.toInt32 := by
  have q : ∀ i j : Fin 4, i.val ≠ j.val → ¬ i.val.toInt32 = j.val.toInt32 := by decide
  exact q ⟨a, ha⟩ ⟨b, hb⟩ h
theorem own_sym (a b c d : List Int32) : (if a = c ∧ b = d then (1 : Int32) else 0) = (if c = a ∧ d = b then 1 else 0) := by simp only [eq_comm]
/-- a String with this text stands in σ -/
def own_T (Z : State) (σ : Asn) (q : Addr) (xs : List Int32) : Prop := ∃ b, (q, own_Str Z (.ref b) (.int 0)) ∈ σ ∧ RdA Z σ b xs ∧ xs.length < 4
theorem own_T.mono {Z : State} {σ σ' : Asn} {q : Addr} {xs : List Int32} (h : own_T Z σ q xs) (hs : ∀ z ∈ σ, z ∈ σ') : own_T Z σ' q xs := by
  obtain ⟨b, h1, h2, h3⟩ := h
  exact ⟨b, hs _ h1, h2.mono hs, h3⟩
/-- a Table with these two texts stands in σ -/
def own_TT (Z : State) (σ : Asn) (t : Addr) (xs ys : List Int32) : Prop := ∃ q1 q2, (t, own_Tab Z (.ref q1) (.ref q2)) ∈ σ ∧ own_T Z σ q1 xs ∧ own_T Z σ q2 ys
theorem own_TT.mono {Z : State} {σ σ' : Asn} {t : Addr} {xs ys : List Int32} (h : own_TT Z σ t xs ys) (hs : ∀ z ∈ σ, z ∈ σ') : own_TT Z σ' t xs ys := by
  obtain ⟨q1, q2, h1, h2, h3⟩ := h
  exact ⟨q1, q2, hs _ h1, h2.mono hs, h3.mono hs⟩
theorem own_start {Z : State} {a0 : Array Value} (hw : ∀ d ∈ tables_1, d.before a0 Z = true) (hh : Jvm.Lit.constHeld Z STR 7) (hcw : Jvm.Lit.compactW.before a0 Z = true) : ∃ u, VI Z u Z.vm ∧ own_HU Z u [] := by
  have w : (Jvm.Cond.stringLink STR 7 "").before a0 Z = true := wd hw 21 rfl
  have hheld := heldStart hh w (by simp) hcw (wd hw 22 rfl) (wd hw 8 rfl)
  obtain ⟨c, kI, hc, -⟩ := Cond.instantiable_spec (wd hw 8 rfl)
  obtain ⟨k, cf, i, units, hk, hcf, hp, hu, hnm, htext, hres⟩ := Cond.stringLink_spec hc w
  have hu0 : units = #[] := by
    have := Jvm.ClassFile.units_of_text htext (by simp)
    simpa using this
  subst hu0
  rcases hres with h0 | ⟨a, h0⟩
  · cases hf : Z.vm.interned.find? (fun p => p.1 == #[]) with
    | none => exact ⟨some none, ⟨c, k, cf, i, "", hc, hk, hcf, hp, hu, hnm, h0, hf⟩, trivial⟩
    | some pr =>
      obtain ⟨u', a⟩ := pr
      have hu' : u' = #[] := by
        have := Array.find?_some hf
        simpa using this
      subst hu'
      exact ⟨none, trivial, a, c, k, cf, i, "", hc, hk, hcf, hp, hu, hnm, Or.inr ⟨h0, hf⟩, hheld c k cf i #[] a hc hk hcf hp hu (Or.inr ⟨h0, hf⟩)⟩
  · exact ⟨none, trivial, a, c, k, cf, i, "", hc, hk, hcf, hp, hu, hnm, Or.inl h0, hheld c k cf i #[] a hc hk hcf hp hu (Or.inl h0)⟩
section Ins
variable {α : Type} {a b : α} {E E' F : List α}
theorem own_in1 : ∀ z ∈ a :: (E ++ []), z ∈ a :: (E ++ [b]) := by intro z hz; simp only [List.mem_cons, List.mem_append, List.not_mem_nil, or_false] at hz ⊢; rcases hz with h | h <;> simp [h]
theorem own_in2 : ∀ z ∈ E ++ [], z ∈ a :: (E' ++ b :: E) ++ [] := by intro z hz; simp only [List.mem_cons, List.mem_append, List.not_mem_nil, or_false] at hz ⊢; simp [hz]
theorem own_in3 : ∀ z ∈ E' ++ b :: (E ++ []), z ∈ a :: (E' ++ b :: E) ++ [] := by intro z hz; simp only [List.mem_cons, List.mem_append, List.not_mem_nil, or_false] at hz ⊢; rcases hz with h | h | h <;> simp [h]
theorem own_in4 : ∀ z ∈ a :: (E ++ F), z ∈ a :: (E ++ b :: F) := by intro z hz; simp only [List.mem_cons, List.mem_append, List.not_mem_nil, or_false] at hz ⊢; rcases hz with h | h | h <;> simp [h]
theorem own_in5 : ∀ z ∈ E ++ F, z ∈ a :: (E' ++ b :: E) ++ F := by intro z hz; simp only [List.mem_cons, List.mem_append, List.not_mem_nil, or_false] at hz ⊢; rcases hz with h | h <;> simp [h]
theorem own_in6 : ∀ z ∈ E' ++ b :: (E ++ F), z ∈ a :: (E' ++ b :: E) ++ F := by intro z hz; simp only [List.mem_cons, List.mem_append, List.not_mem_nil, or_false] at hz ⊢; rcases hz with h | h | h | h <;> simp [h]
end Ins
theorem d1_0 : decode method_3_code 0 = .ok (.iload_n 0, 1) := by decide +kernel
theorem d1_1 : decode method_3_code 1 = .ok (.iconst 3, 1) := by decide +kernel
theorem d1_2 : decode method_3_code 2 = .ok (.iand, 1) := by decide +kernel
theorem d1_3 : decode method_3_code 3 = .ok (.istore_n 1, 1) := by decide +kernel
theorem d1_4 : decode method_3_code 4 = .ok (.iload_n 0, 1) := by decide +kernel
theorem d1_5 : decode method_3_code 5 = .ok (.iconst 2, 1) := by decide +kernel
theorem d1_6 : decode method_3_code 6 = .ok (.iushr, 1) := by decide +kernel
theorem d1_7 : decode method_3_code 7 = .ok (.sipush 255, 3) := by decide +kernel
theorem d1_10 : decode method_3_code 10 = .ok (.iand, 1) := by decide +kernel
theorem d1_11 : decode method_3_code 11 = .ok (.i2c, 1) := by decide +kernel
theorem d1_12 : decode method_3_code 12 = .ok (.istore_n 2, 1) := by decide +kernel
theorem d1_13 : decode method_3_code 13 = .ok (.iload_n 0, 1) := by decide +kernel
theorem d1_14 : decode method_3_code 14 = .ok (.bipush 10, 2) := by decide +kernel
theorem d1_16 : decode method_3_code 16 = .ok (.iushr, 1) := by decide +kernel
theorem d1_17 : decode method_3_code 17 = .ok (.sipush 255, 3) := by decide +kernel
theorem d1_20 : decode method_3_code 20 = .ok (.iand, 1) := by decide +kernel
theorem d1_21 : decode method_3_code 21 = .ok (.i2c, 1) := by decide +kernel
theorem d1_22 : decode method_3_code 22 = .ok (.istore_n 3, 1) := by decide +kernel
theorem d1_23 : decode method_3_code 23 = .ok (.iload_n 0, 1) := by decide +kernel
theorem d1_24 : decode method_3_code 24 = .ok (.bipush 18, 2) := by decide +kernel
theorem d1_26 : decode method_3_code 26 = .ok (.iushr, 1) := by decide +kernel
theorem d1_27 : decode method_3_code 27 = .ok (.sipush 255, 3) := by decide +kernel
theorem d1_30 : decode method_3_code 30 = .ok (.iand, 1) := by decide +kernel
theorem d1_31 : decode method_3_code 31 = .ok (.i2c, 1) := by decide +kernel
theorem d1_32 : decode method_3_code 32 = .ok (.istore 4, 2) := by decide +kernel
theorem d1_34 : decode method_3_code 34 = .ok (.iload_n 1, 1) := by decide +kernel
theorem d1_35 : decode method_3_code 35 = .ok (.ifCond .ne 14, 3) := by decide +kernel
theorem d1_38 : decode method_3_code 38 = .ok (.new 26, 3) := by decide +kernel
theorem d1_41 : decode method_3_code 41 = .ok (.dup, 1) := by decide +kernel
theorem d1_42 : decode method_3_code 42 = .ok (.iconst 0, 1) := by decide +kernel
theorem d1_43 : decode method_3_code 43 = .ok (.newarray .char, 2) := by decide +kernel
theorem d1_45 : decode method_3_code 45 = .ok (.invokespecial 28, 3) := by decide +kernel
theorem d1_48 : decode method_3_code 48 = .ok (.areturn, 1) := by decide +kernel
theorem d1_49 : decode method_3_code 49 = .ok (.iload_n 1, 1) := by decide +kernel
theorem d1_50 : decode method_3_code 50 = .ok (.iconst 1, 1) := by decide +kernel
theorem d1_51 : decode method_3_code 51 = .ok (.if_icmp .ne 18, 3) := by decide +kernel
theorem d1_54 : decode method_3_code 54 = .ok (.new 26, 3) := by decide +kernel
theorem d1_57 : decode method_3_code 57 = .ok (.dup, 1) := by decide +kernel
theorem d1_58 : decode method_3_code 58 = .ok (.iconst 1, 1) := by decide +kernel
theorem d1_59 : decode method_3_code 59 = .ok (.newarray .char, 2) := by decide +kernel
theorem d1_61 : decode method_3_code 61 = .ok (.dup, 1) := by decide +kernel
theorem d1_62 : decode method_3_code 62 = .ok (.iconst 0, 1) := by decide +kernel
theorem d1_63 : decode method_3_code 63 = .ok (.iload_n 2, 1) := by decide +kernel
theorem d1_64 : decode method_3_code 64 = .ok (.castore, 1) := by decide +kernel
theorem d1_65 : decode method_3_code 65 = .ok (.invokespecial 28, 3) := by decide +kernel
theorem d1_68 : decode method_3_code 68 = .ok (.areturn, 1) := by decide +kernel
theorem d1_69 : decode method_3_code 69 = .ok (.iload_n 1, 1) := by decide +kernel
theorem d1_70 : decode method_3_code 70 = .ok (.iconst 2, 1) := by decide +kernel
theorem d1_71 : decode method_3_code 71 = .ok (.if_icmp .ne 22, 3) := by decide +kernel
theorem d1_74 : decode method_3_code 74 = .ok (.new 26, 3) := by decide +kernel
theorem d1_77 : decode method_3_code 77 = .ok (.dup, 1) := by decide +kernel
theorem d1_78 : decode method_3_code 78 = .ok (.iconst 2, 1) := by decide +kernel
theorem d1_79 : decode method_3_code 79 = .ok (.newarray .char, 2) := by decide +kernel
theorem d1_81 : decode method_3_code 81 = .ok (.dup, 1) := by decide +kernel
theorem d1_82 : decode method_3_code 82 = .ok (.iconst 0, 1) := by decide +kernel
theorem d1_83 : decode method_3_code 83 = .ok (.iload_n 2, 1) := by decide +kernel
theorem d1_84 : decode method_3_code 84 = .ok (.castore, 1) := by decide +kernel
theorem d1_85 : decode method_3_code 85 = .ok (.dup, 1) := by decide +kernel
theorem d1_86 : decode method_3_code 86 = .ok (.iconst 1, 1) := by decide +kernel
theorem d1_87 : decode method_3_code 87 = .ok (.iload_n 3, 1) := by decide +kernel
theorem d1_88 : decode method_3_code 88 = .ok (.castore, 1) := by decide +kernel
theorem d1_89 : decode method_3_code 89 = .ok (.invokespecial 28, 3) := by decide +kernel
theorem d1_92 : decode method_3_code 92 = .ok (.areturn, 1) := by decide +kernel
theorem d1_93 : decode method_3_code 93 = .ok (.new 26, 3) := by decide +kernel
theorem d1_96 : decode method_3_code 96 = .ok (.dup, 1) := by decide +kernel
theorem d1_97 : decode method_3_code 97 = .ok (.iconst 3, 1) := by decide +kernel
theorem d1_98 : decode method_3_code 98 = .ok (.newarray .char, 2) := by decide +kernel
theorem d1_100 : decode method_3_code 100 = .ok (.dup, 1) := by decide +kernel
theorem d1_101 : decode method_3_code 101 = .ok (.iconst 0, 1) := by decide +kernel
theorem d1_102 : decode method_3_code 102 = .ok (.iload_n 2, 1) := by decide +kernel
theorem d1_103 : decode method_3_code 103 = .ok (.castore, 1) := by decide +kernel
theorem d1_104 : decode method_3_code 104 = .ok (.dup, 1) := by decide +kernel
theorem d1_105 : decode method_3_code 105 = .ok (.iconst 1, 1) := by decide +kernel
theorem d1_106 : decode method_3_code 106 = .ok (.iload_n 3, 1) := by decide +kernel
theorem d1_107 : decode method_3_code 107 = .ok (.castore, 1) := by decide +kernel
theorem d1_108 : decode method_3_code 108 = .ok (.dup, 1) := by decide +kernel
theorem d1_109 : decode method_3_code 109 = .ok (.iconst 2, 1) := by decide +kernel
theorem d1_110 : decode method_3_code 110 = .ok (.iload 4, 2) := by decide +kernel
theorem d1_112 : decode method_3_code 112 = .ok (.castore, 1) := by decide +kernel
theorem d1_113 : decode method_3_code 113 = .ok (.invokespecial 28, 3) := by decide +kernel
theorem d1_116 : decode method_3_code 116 = .ok (.areturn, 1) := by decide +kernel
theorem d2_0 : decode jdk_42_method_3_code 0 = .ok (.aload_n 0, 1) := by decide +kernel
theorem d2_1 : decode jdk_42_method_3_code 1 = .ok (.aload_n 1, 1) := by decide +kernel
theorem d2_2 : decode jdk_42_method_3_code 2 = .ok (.iconst 0, 1) := by decide +kernel
theorem d2_3 : decode jdk_42_method_3_code 3 = .ok (.aload_n 1, 1) := by decide +kernel
theorem d2_4 : decode jdk_42_method_3_code 4 = .ok (.arraylength, 1) := by decide +kernel
theorem d2_5 : decode jdk_42_method_3_code 5 = .ok (.aconst_null, 1) := by decide +kernel
theorem d2_6 : decode jdk_42_method_3_code 6 = .ok (.invokespecial 27, 3) := by decide +kernel
theorem d2_9 : decode jdk_42_method_3_code 9 = .ok (.return_, 1) := by decide +kernel
theorem d3_0 : decode jdk_42_method_149_code 0 = .ok (.aload_n 0, 1) := by decide +kernel
theorem d3_1 : decode jdk_42_method_149_code 1 = .ok (.invokespecial 1, 3) := by decide +kernel
theorem d3_4 : decode jdk_42_method_149_code 4 = .ok (.iload_n 3, 1) := by decide +kernel
theorem d3_5 : decode jdk_42_method_149_code 5 = .ok (.ifCond .ne 22, 3) := by decide +kernel
theorem d3_8 : decode jdk_42_method_149_code 8 = .ok (.aload_n 0, 1) := by decide +kernel
theorem d3_9 : decode jdk_42_method_149_code 9 = .ok (.ldc 7, 2) := by decide +kernel
theorem d3_11 : decode jdk_42_method_149_code 11 = .ok (.getfield 9, 3) := by decide +kernel
theorem d3_14 : decode jdk_42_method_149_code 14 = .ok (.putfield 9, 3) := by decide +kernel
theorem d3_17 : decode jdk_42_method_149_code 17 = .ok (.aload_n 0, 1) := by decide +kernel
theorem d3_18 : decode jdk_42_method_149_code 18 = .ok (.ldc 7, 2) := by decide +kernel
theorem d3_20 : decode jdk_42_method_149_code 20 = .ok (.getfield 15, 3) := by decide +kernel
theorem d3_23 : decode jdk_42_method_149_code 23 = .ok (.putfield 15, 3) := by decide +kernel
theorem d3_26 : decode jdk_42_method_149_code 26 = .ok (.return_, 1) := by decide +kernel
theorem d3_27 : decode jdk_42_method_149_code 27 = .ok (.getstatic 38, 3) := by decide +kernel
theorem d3_30 : decode jdk_42_method_149_code 30 = .ok (.ifCond .eq 28, 3) := by decide +kernel
theorem d3_33 : decode jdk_42_method_149_code 33 = .ok (.aload_n 1, 1) := by decide +kernel
theorem d3_34 : decode jdk_42_method_149_code 34 = .ok (.iload_n 2, 1) := by decide +kernel
theorem d3_35 : decode jdk_42_method_149_code 35 = .ok (.iload_n 3, 1) := by decide +kernel
theorem d3_36 : decode jdk_42_method_149_code 36 = .ok (.invokestatic 177, 3) := by decide +kernel
theorem d3_39 : decode jdk_42_method_149_code 39 = .ok (.astore 5, 2) := by decide +kernel
theorem d3_41 : decode jdk_42_method_149_code 41 = .ok (.aload_n 0, 1) := by decide +kernel
theorem d3_42 : decode jdk_42_method_149_code 42 = .ok (.aload 5, 2) := by decide +kernel
theorem d3_44 : decode jdk_42_method_149_code 44 = .ok (.iload_n 3, 1) := by decide +kernel
theorem d3_45 : decode jdk_42_method_149_code 45 = .ok (.invokestatic 47, 3) := by decide +kernel
theorem d3_48 : decode jdk_42_method_149_code 48 = .ok (.putfield 15, 3) := by decide +kernel
theorem d3_51 : decode jdk_42_method_149_code 51 = .ok (.aload_n 0, 1) := by decide +kernel
theorem d3_52 : decode jdk_42_method_149_code 52 = .ok (.aload 5, 2) := by decide +kernel
theorem d3_54 : decode jdk_42_method_149_code 54 = .ok (.putfield 9, 3) := by decide +kernel
theorem d3_57 : decode jdk_42_method_149_code 57 = .ok (.return_, 1) := by decide +kernel
theorem d5_0 : decode jdk_52_method_16_code 0 = .ok (.iload_n 2, 1) := by decide +kernel
theorem d5_1 : decode jdk_52_method_16_code 1 = .ok (.newarray .byte, 2) := by decide +kernel
theorem d5_3 : decode jdk_52_method_16_code 3 = .ok (.astore_n 3, 1) := by decide +kernel
theorem d5_4 : decode jdk_52_method_16_code 4 = .ok (.aload_n 0, 1) := by decide +kernel
theorem d5_5 : decode jdk_52_method_16_code 5 = .ok (.iload_n 1, 1) := by decide +kernel
theorem d5_6 : decode jdk_52_method_16_code 6 = .ok (.aload_n 3, 1) := by decide +kernel
theorem d5_7 : decode jdk_52_method_16_code 7 = .ok (.iconst 0, 1) := by decide +kernel
theorem d5_8 : decode jdk_52_method_16_code 8 = .ok (.iload_n 2, 1) := by decide +kernel
theorem d5_9 : decode jdk_52_method_16_code 9 = .ok (.invokestatic 115, 3) := by decide +kernel
theorem d5_12 : decode jdk_52_method_16_code 12 = .ok (.istore 4, 2) := by decide +kernel
theorem d5_14 : decode jdk_52_method_16_code 14 = .ok (.iload 4, 2) := by decide +kernel
theorem d5_16 : decode jdk_52_method_16_code 16 = .ok (.iload_n 2, 1) := by decide +kernel
theorem d5_17 : decode jdk_52_method_16_code 17 = .ok (.if_icmp .eq 40, 3) := by decide +kernel
theorem d5_57 : decode jdk_52_method_16_code 57 = .ok (.aload_n 3, 1) := by decide +kernel
theorem d5_58 : decode jdk_52_method_16_code 58 = .ok (.areturn, 1) := by decide +kernel
theorem d6_0 : decode jdk_52_method_21_code 0 = .ok (.iconst 0, 1) := by decide +kernel
theorem d6_1 : decode jdk_52_method_21_code 1 = .ok (.istore 5, 2) := by decide +kernel
theorem d6_3 : decode jdk_52_method_21_code 3 = .ok (.iload 5, 2) := by decide +kernel
theorem d6_5 : decode jdk_52_method_21_code 5 = .ok (.iload 4, 2) := by decide +kernel
theorem d6_7 : decode jdk_52_method_21_code 7 = .ok (.if_icmp .ge 37, 3) := by decide +kernel
theorem d6_10 : decode jdk_52_method_21_code 10 = .ok (.aload_n 0, 1) := by decide +kernel
theorem d6_11 : decode jdk_52_method_21_code 11 = .ok (.iload_n 1, 1) := by decide +kernel
theorem d6_12 : decode jdk_52_method_21_code 12 = .ok (.caload, 1) := by decide +kernel
theorem d6_13 : decode jdk_52_method_21_code 13 = .ok (.istore 6, 2) := by decide +kernel
theorem d6_15 : decode jdk_52_method_21_code 15 = .ok (.iload 6, 2) := by decide +kernel
theorem d6_17 : decode jdk_52_method_21_code 17 = .ok (.sipush 255, 3) := by decide +kernel
theorem d6_20 : decode jdk_52_method_21_code 20 = .ok (.if_icmp .le 6, 3) := by decide +kernel
theorem d6_26 : decode jdk_52_method_21_code 26 = .ok (.aload_n 2, 1) := by decide +kernel
theorem d6_27 : decode jdk_52_method_21_code 27 = .ok (.iload_n 3, 1) := by decide +kernel
theorem d6_28 : decode jdk_52_method_21_code 28 = .ok (.iload 6, 2) := by decide +kernel
theorem d6_30 : decode jdk_52_method_21_code 30 = .ok (.i2b, 1) := by decide +kernel
theorem d6_31 : decode jdk_52_method_21_code 31 = .ok (.bastore, 1) := by decide +kernel
theorem d6_32 : decode jdk_52_method_21_code 32 = .ok (.iinc 1 1, 3) := by decide +kernel
theorem d6_35 : decode jdk_52_method_21_code 35 = .ok (.iinc 3 1, 3) := by decide +kernel
theorem d6_38 : decode jdk_52_method_21_code 38 = .ok (.iinc 5 1, 3) := by decide +kernel
theorem d6_41 : decode jdk_52_method_21_code 41 = .ok (.goto (-38), 3) := by decide +kernel
theorem d6_44 : decode jdk_52_method_21_code 44 = .ok (.iload 4, 2) := by decide +kernel
theorem d6_46 : decode jdk_52_method_21_code 46 = .ok (.ireturn, 1) := by decide +kernel
theorem d7_0 : decode jdk_52_method_15_code 0 = .ok (.iload_n 1, 1) := by decide +kernel
theorem d7_1 : decode jdk_52_method_15_code 1 = .ok (.aload_n 0, 1) := by decide +kernel
theorem d7_2 : decode jdk_52_method_15_code 2 = .ok (.arraylength, 1) := by decide +kernel
theorem d7_3 : decode jdk_52_method_15_code 3 = .ok (.isub, 1) := by decide +kernel
theorem d7_4 : decode jdk_52_method_15_code 4 = .ok (.bipush 31, 2) := by decide +kernel
theorem d7_6 : decode jdk_52_method_15_code 6 = .ok (.iushr, 1) := by decide +kernel
theorem d7_7 : decode jdk_52_method_15_code 7 = .ok (.i2b, 1) := by decide +kernel
theorem d7_8 : decode jdk_52_method_15_code 8 = .ok (.ireturn, 1) := by decide +kernel
theorem d8_0 : decode prog_11_method_1_code 0 = .ok (.aload_n 0, 1) := by decide +kernel
theorem d8_1 : decode prog_11_method_1_code 1 = .ok (.invokespecial 1, 3) := by decide +kernel
theorem d8_4 : decode prog_11_method_1_code 4 = .ok (.aload_n 0, 1) := by decide +kernel
theorem d8_5 : decode prog_11_method_1_code 5 = .ok (.aload_n 1, 1) := by decide +kernel
theorem d8_6 : decode prog_11_method_1_code 6 = .ok (.ldc 7, 2) := by decide +kernel
theorem d8_8 : decode prog_11_method_1_code 8 = .ok (.invokestatic 9, 3) := by decide +kernel
theorem d8_11 : decode prog_11_method_1_code 11 = .ok (.checkcast 15, 3) := by decide +kernel
theorem d8_14 : decode prog_11_method_1_code 14 = .ok (.putfield 17, 3) := by decide +kernel
theorem d8_17 : decode prog_11_method_1_code 17 = .ok (.aload_n 0, 1) := by decide +kernel
theorem d8_18 : decode prog_11_method_1_code 18 = .ok (.aload_n 2, 1) := by decide +kernel
theorem d8_19 : decode prog_11_method_1_code 19 = .ok (.ldc 22, 2) := by decide +kernel
theorem d8_21 : decode prog_11_method_1_code 21 = .ok (.invokestatic 9, 3) := by decide +kernel
theorem d8_24 : decode prog_11_method_1_code 24 = .ok (.checkcast 15, 3) := by decide +kernel
theorem d8_27 : decode prog_11_method_1_code 27 = .ok (.putfield 24, 3) := by decide +kernel
theorem d8_30 : decode prog_11_method_1_code 30 = .ok (.return_, 1) := by decide +kernel
theorem d9_0 : decode jdk_31_method_11_code 0 = .ok (.aload_n 0, 1) := by decide +kernel
theorem d9_1 : decode jdk_31_method_11_code 1 = .ok (.ifnonnull 12, 3) := by decide +kernel
theorem d9_13 : decode jdk_31_method_11_code 13 = .ok (.aload_n 0, 1) := by decide +kernel
theorem d9_14 : decode jdk_31_method_11_code 14 = .ok (.areturn, 1) := by decide +kernel
theorem d10_0 : decode method_4_code 0 = .ok (.iload_n 0, 1) := by decide +kernel
theorem d10_1 : decode method_4_code 1 = .ok (.iconst 3, 1) := by decide +kernel
theorem d10_2 : decode method_4_code 2 = .ok (.iand, 1) := by decide +kernel
theorem d10_3 : decode method_4_code 3 = .ok (.istore_n 2, 1) := by decide +kernel
theorem d10_4 : decode method_4_code 4 = .ok (.iload_n 2, 1) := by decide +kernel
theorem d10_5 : decode method_4_code 5 = .ok (.iload_n 1, 1) := by decide +kernel
theorem d10_6 : decode method_4_code 6 = .ok (.iconst 3, 1) := by decide +kernel
theorem d10_7 : decode method_4_code 7 = .ok (.iand, 1) := by decide +kernel
theorem d10_8 : decode method_4_code 8 = .ok (.if_icmp .eq 5, 3) := by decide +kernel
theorem d10_11 : decode method_4_code 11 = .ok (.iconst 0, 1) := by decide +kernel
theorem d10_12 : decode method_4_code 12 = .ok (.ireturn, 1) := by decide +kernel
theorem d10_13 : decode method_4_code 13 = .ok (.iload_n 0, 1) := by decide +kernel
theorem d10_14 : decode method_4_code 14 = .ok (.iconst 2, 1) := by decide +kernel
theorem d10_15 : decode method_4_code 15 = .ok (.iushr, 1) := by decide +kernel
theorem d10_16 : decode method_4_code 16 = .ok (.sipush 255, 3) := by decide +kernel
theorem d10_19 : decode method_4_code 19 = .ok (.iand, 1) := by decide +kernel
theorem d10_20 : decode method_4_code 20 = .ok (.iload_n 1, 1) := by decide +kernel
theorem d10_21 : decode method_4_code 21 = .ok (.iconst 2, 1) := by decide +kernel
theorem d10_22 : decode method_4_code 22 = .ok (.iushr, 1) := by decide +kernel
theorem d10_23 : decode method_4_code 23 = .ok (.sipush 255, 3) := by decide +kernel
theorem d10_26 : decode method_4_code 26 = .ok (.iand, 1) := by decide +kernel
theorem d10_27 : decode method_4_code 27 = .ok (.if_icmp .ne 7, 3) := by decide +kernel
theorem d10_30 : decode method_4_code 30 = .ok (.iconst 1, 1) := by decide +kernel
theorem d10_31 : decode method_4_code 31 = .ok (.goto 4, 3) := by decide +kernel
theorem d10_34 : decode method_4_code 34 = .ok (.iconst 0, 1) := by decide +kernel
theorem d10_35 : decode method_4_code 35 = .ok (.istore_n 3, 1) := by decide +kernel
theorem d10_36 : decode method_4_code 36 = .ok (.iload_n 0, 1) := by decide +kernel
theorem d10_37 : decode method_4_code 37 = .ok (.bipush 10, 2) := by decide +kernel
theorem d10_39 : decode method_4_code 39 = .ok (.iushr, 1) := by decide +kernel
theorem d10_40 : decode method_4_code 40 = .ok (.sipush 255, 3) := by decide +kernel
theorem d10_43 : decode method_4_code 43 = .ok (.iand, 1) := by decide +kernel
theorem d10_44 : decode method_4_code 44 = .ok (.iload_n 1, 1) := by decide +kernel
theorem d10_45 : decode method_4_code 45 = .ok (.bipush 10, 2) := by decide +kernel
theorem d10_47 : decode method_4_code 47 = .ok (.iushr, 1) := by decide +kernel
theorem d10_48 : decode method_4_code 48 = .ok (.sipush 255, 3) := by decide +kernel
theorem d10_51 : decode method_4_code 51 = .ok (.iand, 1) := by decide +kernel
theorem d10_52 : decode method_4_code 52 = .ok (.if_icmp .ne 7, 3) := by decide +kernel
theorem d10_55 : decode method_4_code 55 = .ok (.iconst 1, 1) := by decide +kernel
theorem d10_56 : decode method_4_code 56 = .ok (.goto 4, 3) := by decide +kernel
theorem d10_59 : decode method_4_code 59 = .ok (.iconst 0, 1) := by decide +kernel
theorem d10_60 : decode method_4_code 60 = .ok (.istore 4, 2) := by decide +kernel
theorem d10_62 : decode method_4_code 62 = .ok (.iload_n 0, 1) := by decide +kernel
theorem d10_63 : decode method_4_code 63 = .ok (.bipush 18, 2) := by decide +kernel
theorem d10_65 : decode method_4_code 65 = .ok (.iushr, 1) := by decide +kernel
theorem d10_66 : decode method_4_code 66 = .ok (.sipush 255, 3) := by decide +kernel
theorem d10_69 : decode method_4_code 69 = .ok (.iand, 1) := by decide +kernel
theorem d10_70 : decode method_4_code 70 = .ok (.iload_n 1, 1) := by decide +kernel
theorem d10_71 : decode method_4_code 71 = .ok (.bipush 18, 2) := by decide +kernel
theorem d10_73 : decode method_4_code 73 = .ok (.iushr, 1) := by decide +kernel
theorem d10_74 : decode method_4_code 74 = .ok (.sipush 255, 3) := by decide +kernel
theorem d10_77 : decode method_4_code 77 = .ok (.iand, 1) := by decide +kernel
theorem d10_78 : decode method_4_code 78 = .ok (.if_icmp .ne 7, 3) := by decide +kernel
theorem d10_81 : decode method_4_code 81 = .ok (.iconst 1, 1) := by decide +kernel
theorem d10_82 : decode method_4_code 82 = .ok (.goto 4, 3) := by decide +kernel
theorem d10_85 : decode method_4_code 85 = .ok (.iconst 0, 1) := by decide +kernel
theorem d10_86 : decode method_4_code 86 = .ok (.istore 5, 2) := by decide +kernel
theorem d10_88 : decode method_4_code 88 = .ok (.iload_n 2, 1) := by decide +kernel
theorem d10_89 : decode method_4_code 89 = .ok (.ifCond .ne 5, 3) := by decide +kernel
theorem d10_92 : decode method_4_code 92 = .ok (.iconst 1, 1) := by decide +kernel
theorem d10_93 : decode method_4_code 93 = .ok (.ireturn, 1) := by decide +kernel
theorem d10_94 : decode method_4_code 94 = .ok (.iload_n 2, 1) := by decide +kernel
theorem d10_95 : decode method_4_code 95 = .ok (.iconst 1, 1) := by decide +kernel
theorem d10_96 : decode method_4_code 96 = .ok (.if_icmp .ne 5, 3) := by decide +kernel
theorem d10_99 : decode method_4_code 99 = .ok (.iload_n 3, 1) := by decide +kernel
theorem d10_100 : decode method_4_code 100 = .ok (.ireturn, 1) := by decide +kernel
theorem d10_101 : decode method_4_code 101 = .ok (.iload_n 2, 1) := by decide +kernel
theorem d10_102 : decode method_4_code 102 = .ok (.iconst 2, 1) := by decide +kernel
theorem d10_103 : decode method_4_code 103 = .ok (.if_icmp .ne 18, 3) := by decide +kernel
theorem d10_106 : decode method_4_code 106 = .ok (.iload_n 3, 1) := by decide +kernel
theorem d10_107 : decode method_4_code 107 = .ok (.ifCond .eq 12, 3) := by decide +kernel
theorem d10_110 : decode method_4_code 110 = .ok (.iload 4, 2) := by decide +kernel
theorem d10_112 : decode method_4_code 112 = .ok (.ifCond .eq 7, 3) := by decide +kernel
theorem d10_115 : decode method_4_code 115 = .ok (.iconst 1, 1) := by decide +kernel
theorem d10_116 : decode method_4_code 116 = .ok (.goto 4, 3) := by decide +kernel
theorem d10_119 : decode method_4_code 119 = .ok (.iconst 0, 1) := by decide +kernel
theorem d10_120 : decode method_4_code 120 = .ok (.ireturn, 1) := by decide +kernel
theorem d10_121 : decode method_4_code 121 = .ok (.iload_n 3, 1) := by decide +kernel
theorem d10_122 : decode method_4_code 122 = .ok (.ifCond .eq 17, 3) := by decide +kernel
theorem d10_125 : decode method_4_code 125 = .ok (.iload 4, 2) := by decide +kernel
theorem d10_127 : decode method_4_code 127 = .ok (.ifCond .eq 12, 3) := by decide +kernel
theorem d10_130 : decode method_4_code 130 = .ok (.iload 5, 2) := by decide +kernel
theorem d10_132 : decode method_4_code 132 = .ok (.ifCond .eq 7, 3) := by decide +kernel
theorem d10_135 : decode method_4_code 135 = .ok (.iconst 1, 1) := by decide +kernel
theorem d10_136 : decode method_4_code 136 = .ok (.goto 4, 3) := by decide +kernel
theorem d10_139 : decode method_4_code 139 = .ok (.iconst 0, 1) := by decide +kernel
theorem d10_140 : decode method_4_code 140 = .ok (.ireturn, 1) := by decide +kernel
theorem d11_0 : decode prog_11_method_5_code 0 = .ok (.aload_n 1, 1) := by decide +kernel
theorem d11_1 : decode prog_11_method_5_code 1 = .ok (.instanceof 18, 3) := by decide +kernel
theorem d11_4 : decode prog_11_method_5_code 4 = .ok (.ifCond .eq 40, 3) := by decide +kernel
theorem d11_7 : decode prog_11_method_5_code 7 = .ok (.aload_n 1, 1) := by decide +kernel
theorem d11_8 : decode prog_11_method_5_code 8 = .ok (.checkcast 18, 3) := by decide +kernel
theorem d11_11 : decode prog_11_method_5_code 11 = .ok (.astore_n 2, 1) := by decide +kernel
theorem d11_12 : decode prog_11_method_5_code 12 = .ok (.aload_n 0, 1) := by decide +kernel
theorem d11_13 : decode prog_11_method_5_code 13 = .ok (.getfield 17, 3) := by decide +kernel
theorem d11_16 : decode prog_11_method_5_code 16 = .ok (.aload_n 2, 1) := by decide +kernel
theorem d11_17 : decode prog_11_method_5_code 17 = .ok (.getfield 17, 3) := by decide +kernel
theorem d11_20 : decode prog_11_method_5_code 20 = .ok (.invokevirtual 36, 3) := by decide +kernel
theorem d11_23 : decode prog_11_method_5_code 23 = .ok (.ifCond .eq 21, 3) := by decide +kernel
theorem d11_26 : decode prog_11_method_5_code 26 = .ok (.aload_n 0, 1) := by decide +kernel
theorem d11_27 : decode prog_11_method_5_code 27 = .ok (.getfield 24, 3) := by decide +kernel
theorem d11_30 : decode prog_11_method_5_code 30 = .ok (.aload_n 2, 1) := by decide +kernel
theorem d11_31 : decode prog_11_method_5_code 31 = .ok (.getfield 24, 3) := by decide +kernel
theorem d11_34 : decode prog_11_method_5_code 34 = .ok (.invokevirtual 36, 3) := by decide +kernel
theorem d11_37 : decode prog_11_method_5_code 37 = .ok (.ifCond .eq 7, 3) := by decide +kernel
theorem d11_40 : decode prog_11_method_5_code 40 = .ok (.iconst 1, 1) := by decide +kernel
theorem d11_41 : decode prog_11_method_5_code 41 = .ok (.goto 4, 3) := by decide +kernel
theorem d11_44 : decode prog_11_method_5_code 44 = .ok (.iconst 0, 1) := by decide +kernel
theorem d11_45 : decode prog_11_method_5_code 45 = .ok (.ireturn, 1) := by decide +kernel
theorem d12_0 : decode jdk_42_method_66_code 0 = .ok (.aload_n 0, 1) := by decide +kernel
theorem d12_1 : decode jdk_42_method_66_code 1 = .ok (.aload_n 1, 1) := by decide +kernel
theorem d12_2 : decode jdk_42_method_66_code 2 = .ok (.if_acmp .ne 5, 3) := by decide +kernel
theorem d12_5 : decode jdk_42_method_66_code 5 = .ok (.iconst 1, 1) := by decide +kernel
theorem d12_6 : decode jdk_42_method_66_code 6 = .ok (.ireturn, 1) := by decide +kernel
theorem d12_7 : decode jdk_42_method_66_code 7 = .ok (.aload_n 1, 1) := by decide +kernel
theorem d12_8 : decode jdk_42_method_66_code 8 = .ok (.instanceof 10, 3) := by decide +kernel
theorem d12_11 : decode jdk_42_method_66_code 11 = .ok (.ifCond .eq 43, 3) := by decide +kernel
theorem d12_14 : decode jdk_42_method_66_code 14 = .ok (.aload_n 1, 1) := by decide +kernel
theorem d12_15 : decode jdk_42_method_66_code 15 = .ok (.checkcast 10, 3) := by decide +kernel
theorem d12_18 : decode jdk_42_method_66_code 18 = .ok (.astore_n 2, 1) := by decide +kernel
theorem d12_19 : decode jdk_42_method_66_code 19 = .ok (.getstatic 38, 3) := by decide +kernel
theorem d12_22 : decode jdk_42_method_66_code 22 = .ok (.ifCond .eq 14, 3) := by decide +kernel
theorem d12_25 : decode jdk_42_method_66_code 25 = .ok (.aload_n 0, 1) := by decide +kernel
theorem d12_26 : decode jdk_42_method_66_code 26 = .ok (.getfield 15, 3) := by decide +kernel
theorem d12_29 : decode jdk_42_method_66_code 29 = .ok (.aload_n 2, 1) := by decide +kernel
theorem d12_30 : decode jdk_42_method_66_code 30 = .ok (.getfield 15, 3) := by decide +kernel
theorem d12_33 : decode jdk_42_method_66_code 33 = .ok (.if_icmp .ne 21, 3) := by decide +kernel
theorem d12_36 : decode jdk_42_method_66_code 36 = .ok (.aload_n 0, 1) := by decide +kernel
theorem d12_37 : decode jdk_42_method_66_code 37 = .ok (.getfield 9, 3) := by decide +kernel
theorem d12_40 : decode jdk_42_method_66_code 40 = .ok (.aload_n 2, 1) := by decide +kernel
theorem d12_41 : decode jdk_42_method_66_code 41 = .ok (.getfield 9, 3) := by decide +kernel
theorem d12_44 : decode jdk_42_method_66_code 44 = .ok (.invokestatic 541, 3) := by decide +kernel
theorem d12_47 : decode jdk_42_method_66_code 47 = .ok (.ifCond .eq 7, 3) := by decide +kernel
theorem d12_50 : decode jdk_42_method_66_code 50 = .ok (.iconst 1, 1) := by decide +kernel
theorem d12_51 : decode jdk_42_method_66_code 51 = .ok (.goto 4, 3) := by decide +kernel
theorem d12_54 : decode jdk_42_method_66_code 54 = .ok (.iconst 0, 1) := by decide +kernel
theorem d12_55 : decode jdk_42_method_66_code 55 = .ok (.ireturn, 1) := by decide +kernel
theorem d13_0 : decode jdk_43_method_13_code 0 = .ok (.aload_n 0, 1) := by decide +kernel
theorem d13_1 : decode jdk_43_method_13_code 1 = .ok (.arraylength, 1) := by decide +kernel
theorem d13_2 : decode jdk_43_method_13_code 2 = .ok (.aload_n 1, 1) := by decide +kernel
theorem d13_3 : decode jdk_43_method_13_code 3 = .ok (.arraylength, 1) := by decide +kernel
theorem d13_4 : decode jdk_43_method_13_code 4 = .ok (.if_icmp .ne 30, 3) := by decide +kernel
theorem d13_7 : decode jdk_43_method_13_code 7 = .ok (.iconst 0, 1) := by decide +kernel
theorem d13_8 : decode jdk_43_method_13_code 8 = .ok (.istore_n 2, 1) := by decide +kernel
theorem d13_9 : decode jdk_43_method_13_code 9 = .ok (.iload_n 2, 1) := by decide +kernel
theorem d13_10 : decode jdk_43_method_13_code 10 = .ok (.aload_n 0, 1) := by decide +kernel
theorem d13_11 : decode jdk_43_method_13_code 11 = .ok (.arraylength, 1) := by decide +kernel
theorem d13_12 : decode jdk_43_method_13_code 12 = .ok (.if_icmp .ge 20, 3) := by decide +kernel
theorem d13_15 : decode jdk_43_method_13_code 15 = .ok (.aload_n 0, 1) := by decide +kernel
theorem d13_16 : decode jdk_43_method_13_code 16 = .ok (.iload_n 2, 1) := by decide +kernel
theorem d13_17 : decode jdk_43_method_13_code 17 = .ok (.baload, 1) := by decide +kernel
theorem d13_18 : decode jdk_43_method_13_code 18 = .ok (.aload_n 1, 1) := by decide +kernel
theorem d13_19 : decode jdk_43_method_13_code 19 = .ok (.iload_n 2, 1) := by decide +kernel
theorem d13_20 : decode jdk_43_method_13_code 20 = .ok (.baload, 1) := by decide +kernel
theorem d13_21 : decode jdk_43_method_13_code 21 = .ok (.if_icmp .eq 5, 3) := by decide +kernel
theorem d13_24 : decode jdk_43_method_13_code 24 = .ok (.iconst 0, 1) := by decide +kernel
theorem d13_25 : decode jdk_43_method_13_code 25 = .ok (.ireturn, 1) := by decide +kernel
theorem d13_26 : decode jdk_43_method_13_code 26 = .ok (.iinc 2 1, 3) := by decide +kernel
theorem d13_29 : decode jdk_43_method_13_code 29 = .ok (.goto (-20), 3) := by decide +kernel
theorem d13_32 : decode jdk_43_method_13_code 32 = .ok (.iconst 1, 1) := by decide +kernel
theorem d13_33 : decode jdk_43_method_13_code 33 = .ok (.ireturn, 1) := by decide +kernel
theorem d13_34 : decode jdk_43_method_13_code 34 = .ok (.iconst 0, 1) := by decide +kernel
theorem d13_35 : decode jdk_43_method_13_code 35 = .ok (.ireturn, 1) := by decide +kernel
theorem pd0 : parseMethodDescriptor "([CI[BII)I" = some ⟨[(.array .char), .int, (.array .byte), .int, .int], some .int⟩ := by decide +kernel
theorem pd1 : parseMethodDescriptor "([CII)[B" = some ⟨[(.array .char), .int, .int], some (.array .byte)⟩ := by decide +kernel
theorem pd2 : parseMethodDescriptor "([BI)B" = some ⟨[(.array .byte), .int], some .byte⟩ := by decide +kernel
theorem pd3 : parseMethodDescriptor "([CIILjava/lang/Void;)V" = some ⟨[(.array .char), .int, .int, (.object "java/lang/Void")], none⟩ := by decide +kernel
theorem pd4 : parseMethodDescriptor "([C)V" = some ⟨[(.array .char)], none⟩ := by decide +kernel
theorem pd5 : parseMethodDescriptor "(Ljava/lang/Object;Ljava/lang/String;)Ljava/lang/Object;" = some ⟨[(.object "java/lang/Object"), (.object "java/lang/String")], some (.object "java/lang/Object")⟩ := by decide +kernel
theorem pd6 : parseMethodDescriptor "([B[B)Z" = some ⟨[(.array .byte), (.array .byte)], some .boolean⟩ := by decide +kernel
theorem pd7 : parseMethodDescriptor "(Ljava/lang/Object;)Z" = some ⟨[(.object "java/lang/Object")], some .boolean⟩ := by decide +kernel
theorem pd8 : parseMethodDescriptor "(I)Ljava/lang/String;" = some ⟨[.int], some (.object "java/lang/String")⟩ := by decide +kernel
theorem pd9 : parseMethodDescriptor "(Ljava/lang/String;Ljava/lang/String;)V" = some ⟨[(.object "java/lang/String"), (.object "java/lang/String")], none⟩ := by decide +kernel
theorem pd10 : parseMethodDescriptor "(II)Z" = some ⟨[.int, .int], some .boolean⟩ := by decide +kernel
theorem pn_mC1_1 : plainFor (⟨"java/lang/StringUTF16", "compress", "([CI[BII)I"⟩ : MethodName) = true := by first | (refine plainFor_of_name ?_; simp [plainName, overriddenIn]; done) | (refine plainFor_of_name ?_; decide +kernel) | decide +kernel
set_option maxRecDepth 65536 in
set_option maxHeartbeats 40000000 in
theorem mC1_1 (l : Launch) (Z : State) (n0 : Nat) (a0 : Array Value) (hw : ∀ d ∈ tables_1, d.before a0 Z = true) (u : Lst) (F : Asn) (kc kb : Addr) (c0 : Int32) (h0 : ¬ 255 < c0) : Sp l Z n0 u (⟨"java/lang/StringUTF16", "compress", "([CI[BII)I"⟩ : MethodName) jdk_52_method_21_code 7 (some .int) ({ frames := 0, cells := 0, slots := 0, locals := 0 } : Room) [(.ref kc), (.int (0 : Int32)), (.ref kb), (.int (0 : Int32)), (.int (1 : Int32))] ((kc, (IA Z .char [c0])) :: (kb, (IA Z .byte [0])) :: F) (Ret u (some (.int 1)) ((kc, IA Z .char [c0]) :: (kb, IA Z .byte [(nar .byte c0.toInt8.toInt32)]) :: F)) := by
  refine Sp.of (ls := #[.val (.ref kc), .val (.int (0 : Int32)), .val (.ref kb), .val (.int (0 : Int32)), .val (.int (1 : Int32)), .unset, .unset]) pn_mC1_1 (fun m => by first | (simp [entryFrame, mkF, argsToLocals, Value.category]; done) | rfl) ?_
  show W _ _ _ ("java/lang/StringUTF16", "compress", jdk_52_method_21_code, 7, (some .int), u) _ _ 0 0 ((kc, (IA Z .char [c0])) :: (kb, (IA Z .byte [0])) :: F) 0 #[.val (.ref kc), .val (.int (0 : Int32)), .val (.ref kb), .val (.int (0 : Int32)), .val (.int (1 : Int32)), .unset, .unset] []
  refine W.iconst (0 : Int32) d6_0 (pc' := 1) rfl rfl ?_
  refine W.istore #[.val (.ref kc), .val (.int (0 : Int32)), .val (.ref kb), .val (.int (0 : Int32)), .val (.int (1 : Int32)), .val (.int (0 : Int32)), .unset] d6_1 (pc' := 3) rfl rfl ?_
  refine W.iload d6_3 (pc' := 5) rfl rfl ?_
  refine W.iload d6_5 (pc' := 7) rfl rfl ?_
  refine W.icmpN d6_7 (by decide) (pc' := 10) rfl ?_
  refine W.aloadN d6_10 (pc' := 11) rfl rfl rfl ?_
  refine W.iloadN d6_11 (pc' := 12) rfl rfl ?_
  refine W.caload 0 0 (x := c0) d6_12 rfl (by decide) rfl rfl (pc' := 13) rfl ?_
  refine W.istore #[.val (.ref kc), .val (.int (0 : Int32)), .val (.ref kb), .val (.int (0 : Int32)), .val (.int (1 : Int32)), .val (.int (0 : Int32)), .val (.int c0)] d6_13 (pc' := 15) rfl rfl ?_
  refine W.iload d6_15 (pc' := 17) rfl rfl ?_
  refine W.sipush (255 : Int32) d6_17 (pc' := 20) rfl rfl ?_
  refine W.icmpY d6_20 (XT.ii_le_t h0) (by decide) (pc' := 26) rfl ?_
  refine W.aloadN d6_26 (pc' := 27) rfl rfl rfl ?_
  refine W.iloadN d6_27 (pc' := 28) rfl rfl ?_
  refine W.iload d6_28 (pc' := 30) rfl rfl ?_
  refine W.i2b d6_30 (pc' := 31) rfl ?_
  refine W.bastore ((kc, (IA Z .char [c0])) :: (kb, (IA Z .byte [(nar .byte c0.toInt8.toInt32)])) :: F) 1 0 d6_31 rfl (by decide) rfl (Nat.le_of_ble_eq_true rfl) rfl (pc' := 32) rfl ?_
  refine W.iinc #[.val (.ref kc), .val (.int (1 : Int32)), .val (.ref kb), .val (.int (0 : Int32)), .val (.int (1 : Int32)), .val (.int (0 : Int32)), .val (.int c0)] (1 : Int32) (1 : Int32) d6_32 (pc' := 35) rfl rfl rfl (by decide) rfl ?_
  refine W.iinc #[.val (.ref kc), .val (.int (1 : Int32)), .val (.ref kb), .val (.int (1 : Int32)), .val (.int (1 : Int32)), .val (.int (0 : Int32)), .val (.int c0)] (1 : Int32) (1 : Int32) d6_35 (pc' := 38) rfl rfl rfl (by decide) rfl ?_
  refine W.iinc #[.val (.ref kc), .val (.int (1 : Int32)), .val (.ref kb), .val (.int (1 : Int32)), .val (.int (1 : Int32)), .val (.int (1 : Int32)), .val (.int c0)] (1 : Int32) (1 : Int32) d6_38 (pc' := 41) rfl rfl rfl (by decide) rfl ?_
  refine W.goto d6_41 (pc' := 3) (by decide) rfl ?_
  refine W.iload d6_3 (pc' := 5) rfl rfl ?_
  refine W.iload d6_5 (pc' := 7) rfl rfl ?_
  refine W.icmpY d6_7 (by decide) (by decide) (pc' := 44) rfl ?_
  refine W.iload d6_44 (pc' := 46) rfl rfl ?_
  exact W.retI d6_46 rfl (by decide) (by decide) ⟨rfl, rfl, rfl⟩
theorem pn_mC2_1 : plainFor (⟨"java/lang/StringUTF16", "compress", "([CII)[B"⟩ : MethodName) = true := by first | (refine plainFor_of_name ?_; simp [plainName, overriddenIn]; done) | (refine plainFor_of_name ?_; decide +kernel) | decide +kernel
set_option maxRecDepth 65536 in
set_option maxHeartbeats 40000000 in
theorem mC2_1 (l : Launch) (Z : State) (n0 : Nat) (a0 : Array Value) (hw : ∀ d ∈ tables_1, d.before a0 Z = true) (u : Lst) (F : Asn) (kc : Addr) (c0 : Int32) (h0 : ¬ 255 < c0) : Sp l Z n0 u (⟨"java/lang/StringUTF16", "compress", "([CII)[B"⟩ : MethodName) jdk_52_method_16_code 6 (some (.array .byte)) ({ frames := 1, cells := 1, slots := 1, locals := 18 } : Room) [(.ref kc), (.int (0 : Int32)), (.int (1 : Int32))] ((kc, (IA Z .char [c0])) :: F) (fun w v σ' => u = w ∧ ∃ kb, v = some (.ref kb) ∧ σ' = (kc, IA Z .char [c0]) :: (kb, IA Z .byte [(nar .byte c0.toInt8.toInt32)]) :: F) := by
  refine Sp.of (ls := #[.val (.ref kc), .val (.int (0 : Int32)), .val (.int (1 : Int32)), .unset, .unset, .unset]) pn_mC2_1 (fun m => by first | (simp [entryFrame, mkF, argsToLocals, Value.category]; done) | rfl) ?_
  show W _ _ _ ("java/lang/StringUTF16", "compress", jdk_52_method_16_code, 6, (some (.array .byte)), u) _ _ 0 0 ((kc, (IA Z .char [c0])) :: F) 0 #[.val (.ref kc), .val (.int (0 : Int32)), .val (.int (1 : Int32)), .unset, .unset, .unset] []
  refine W.iloadN d5_0 (pc' := 1) rfl rfl ?_
  refine W.newI 1 1 d5_1 (wd hw 22 rfl) rfl (by decide) rfl (by decide) (by decide) (by decide) (by decide) (pc' := 3) rfl ?_
  intro kb
  show W _ _ _ ("java/lang/StringUTF16", "compress", jdk_52_method_16_code, 6, (some (.array .byte)), u) _ _ 1 1 ((kb, (IA Z .byte [0])) :: (kc, (IA Z .char [c0])) :: F) 3 #[.val (.ref kc), .val (.int (0 : Int32)), .val (.int (1 : Int32)), .unset, .unset, .unset] [(.ref kb)]
  refine W.astoreN #[.val (.ref kc), .val (.int (0 : Int32)), .val (.int (1 : Int32)), .val (.ref kb), .unset, .unset] d5_3 (pc' := 4) rfl rfl rfl ?_
  refine W.aloadN d5_4 (pc' := 5) rfl rfl rfl ?_
  refine W.iloadN d5_5 (pc' := 6) rfl rfl ?_
  refine W.aloadN d5_6 (pc' := 7) rfl rfl rfl ?_
  refine W.iconst (0 : Int32) d5_7 (pc' := 8) rfl rfl ?_
  refine W.iloadN d5_8 (pc' := 9) rfl rfl ?_
  refine W.pull ((kb, (IA Z .byte [0])) :: F) 1 rfl rfl ?_
  refine W.callS (mC1_1 l Z n0 a0 hw u F kc kb c0 h0) d5_9 (wd hw 34 rfl) (wd hw 35 rfl) (wd hw 32 rfl) (wd hw 36 rfl) (by decide) pd0 rfl rfl (Nat.le_of_ble_eq_true rfl) (Nat.le_of_ble_eq_true rfl) (Nat.le_of_ble_eq_true rfl) (Nat.le_of_ble_eq_true rfl) rfl (pc' := 12) rfl ?_
  rintro w9 v9 s9 ⟨rfl, rfl, e9⟩
  obtain rfl := e9.symm
  show W _ _ _ ("java/lang/StringUTF16", "compress", jdk_52_method_16_code, 6, (some (.array .byte)), u) _ _ 1 1 ((kc, (IA Z .char [c0])) :: (kb, (IA Z .byte [(nar .byte c0.toInt8.toInt32)])) :: F) 12 #[.val (.ref kc), .val (.int (0 : Int32)), .val (.int (1 : Int32)), .val (.ref kb), .unset, .unset] [(.int (1 : Int32))]
  refine W.istore #[.val (.ref kc), .val (.int (0 : Int32)), .val (.int (1 : Int32)), .val (.ref kb), .val (.int (1 : Int32)), .unset] d5_12 (pc' := 14) rfl rfl ?_
  refine W.iload d5_14 (pc' := 16) rfl rfl ?_
  refine W.iloadN d5_16 (pc' := 17) rfl rfl ?_
  refine W.icmpY d5_17 (by decide) (by decide) (pc' := 57) rfl ?_
  refine W.aloadN d5_57 (pc' := 58) rfl rfl rfl ?_
  exact W.retA (t := (.array .byte)) d5_58 rfl rfl rfl rfl (by decide) (by decide) ⟨rfl, kb, rfl, rfl⟩
theorem pn_mCo_1 : plainFor (⟨"java/lang/StringUTF16", "coderFromArrayLen", "([BI)B"⟩ : MethodName) = true := by first | (refine plainFor_of_name ?_; simp [plainName, overriddenIn]; done) | (refine plainFor_of_name ?_; decide +kernel) | decide +kernel
set_option maxRecDepth 65536 in
set_option maxHeartbeats 40000000 in
theorem mCo_1 (l : Launch) (Z : State) (n0 : Nat) (a0 : Array Value) (hw : ∀ d ∈ tables_1, d.before a0 Z = true) (u : Lst) (F : Asn) (kb : Addr) (x0 : Int32) : Sp l Z n0 u (⟨"java/lang/StringUTF16", "coderFromArrayLen", "([BI)B"⟩ : MethodName) jdk_52_method_15_code 2 (some .byte) ({ frames := 0, cells := 0, slots := 0, locals := 0 } : Room) [(.ref kb), (.int (1 : Int32))] ((kb, (IA Z .byte [x0])) :: F) (Ret u (some (.int 0)) ((kb, IA Z .byte [x0]) :: F)) := by
  refine Sp.of (ls := #[.val (.ref kb), .val (.int (1 : Int32))]) pn_mCo_1 (fun m => by first | (simp [entryFrame, mkF, argsToLocals, Value.category]; done) | rfl) ?_
  show W _ _ _ ("java/lang/StringUTF16", "coderFromArrayLen", jdk_52_method_15_code, 2, (some .byte), u) _ _ 0 0 ((kb, (IA Z .byte [x0])) :: F) 0 #[.val (.ref kb), .val (.int (1 : Int32))] []
  refine W.iloadN d7_0 (pc' := 1) rfl rfl ?_
  refine W.aloadN d7_1 (pc' := 2) rfl rfl rfl ?_
  refine W.len 0 (1 : Int32) d7_2 rfl rfl (pc' := 3) rfl ?_
  refine W.isub d7_3 (pc' := 4) rfl ?_
  refine W.topI (0 : Int32) (by decide) ?_
  refine W.bipush (31 : Int32) d7_4 (pc' := 6) rfl rfl ?_
  refine W.iushr d7_6 (pc' := 7) rfl ?_
  refine W.i2b d7_7 (pc' := 8) rfl ?_
  exact W.retN (t := .byte) 0 d7_8 rfl (by simp) (by decide) (by decide) (by decide) ⟨rfl, rfl, rfl⟩
theorem pn_mS2_1 : plainFor (⟨"java/lang/String", "<init>", "([CIILjava/lang/Void;)V"⟩ : MethodName) = true := by first | (refine plainFor_of_name ?_; simp [plainName, overriddenIn]; done) | (refine plainFor_of_name ?_; decide +kernel) | decide +kernel
set_option maxRecDepth 65536 in
set_option maxHeartbeats 40000000 in
theorem mS2_1 (l : Launch) (Z : State) (n0 : Nat) (a0 : Array Value) (hw : ∀ d ∈ tables_1, d.before a0 Z = true) (u : Lst) (cs : Int32) (hcs : ¬ cs = 0) (hst : Sta Z Z.heap "java/lang/String" "COMPACT_STRINGS" "Z" (.int cs)) (F : Asn) (s kc : Addr) (c0 : Int32) (h0 : ¬ 255 < c0) : Sp l Z n0 u (⟨"java/lang/String", "<init>", "([CIILjava/lang/Void;)V"⟩ : MethodName) jdk_42_method_149_code 6 none ({ frames := 2, cells := 1, slots := 1, locals := 35 } : Room) [(.ref s), (.ref kc), (.int (0 : Int32)), (.int (1 : Int32)), .null] ((s, (own_Str Z .null (.int (0 : Int32)))) :: (kc, (IA Z .char [c0])) :: F) (fun w v σ' => u = w ∧ v = none ∧ ∃ kb, σ' = (s, (own_Str Z (.ref kb) (.int (0 : Int32)))) :: (kc, IA Z .char [c0]) :: (kb, IA Z .byte [(nar .byte c0.toInt8.toInt32)]) :: F) := by
  refine Sp.of (ls := #[.val (.ref s), .val (.ref kc), .val (.int (0 : Int32)), .val (.int (1 : Int32)), .val .null, .unset]) pn_mS2_1 (fun m => by first | (simp [entryFrame, mkF, argsToLocals, Value.category]; done) | rfl) ?_
  show W _ _ _ ("java/lang/String", "<init>", jdk_42_method_149_code, 6, none, u) _ _ 0 0 ((s, (own_Str Z .null (.int (0 : Int32)))) :: (kc, (IA Z .char [c0])) :: F) 0 #[.val (.ref s), .val (.ref kc), .val (.int (0 : Int32)), .val (.int (1 : Int32)), .val .null, .unset] []
  refine W.aloadN d3_0 (pc' := 1) rfl rfl rfl ?_
  refine W.initO d3_1 (wd hw 18 rfl) (wd hw 19 rfl) (wd hw 20 rfl) rfl (Nat.le_of_ble_eq_true rfl) (Nat.le_of_ble_eq_true rfl) (pc' := 4) rfl ?_
  refine W.iloadN d3_4 (pc' := 5) rfl rfl ?_
  refine W.ifY d3_5 (by decide) (by decide) (pc' := 27) rfl ?_
  refine W.getS d3_27 (wd hw 29 rfl) Via.refl hst (pc' := 30) rfl ?_
  refine W.ifN d3_30 (XT.i0_eq_f hcs) (pc' := 33) rfl ?_
  refine W.aloadN d3_33 (pc' := 34) rfl rfl rfl ?_
  refine W.iloadN d3_34 (pc' := 35) rfl rfl ?_
  refine W.iloadN d3_35 (pc' := 36) rfl rfl ?_
  refine W.pull ((s, (own_Str Z .null (.int (0 : Int32)))) :: F) 1 rfl rfl ?_
  refine W.callS (mC2_1 l Z n0 a0 hw u ((s, (own_Str Z .null (.int (0 : Int32)))) :: F) kc c0 h0) d3_36 (wd hw 30 rfl) (wd hw 31 rfl) (wd hw 32 rfl) (wd hw 33 rfl) (by decide) pd1 rfl rfl (Nat.le_of_ble_eq_true rfl) (Nat.le_of_ble_eq_true rfl) (Nat.le_of_ble_eq_true rfl) (Nat.le_of_ble_eq_true rfl) rfl (pc' := 39) rfl ?_
  rintro _ _ _ ⟨rfl, kb, rfl, rfl⟩
  show W _ _ _ ("java/lang/String", "<init>", jdk_42_method_149_code, 6, none, u) _ _ 1 1 ((kc, (IA Z .char [c0])) :: (kb, (IA Z .byte [(nar .byte c0.toInt8.toInt32)])) :: (s, (own_Str Z .null (.int (0 : Int32)))) :: F) 39 #[.val (.ref s), .val (.ref kc), .val (.int (0 : Int32)), .val (.int (1 : Int32)), .val .null, .unset] [(.ref kb)]
  refine W.astore #[.val (.ref s), .val (.ref kc), .val (.int (0 : Int32)), .val (.int (1 : Int32)), .val .null, .val (.ref kb)] d3_39 (pc' := 41) rfl rfl rfl ?_
  refine W.aloadN d3_41 (pc' := 42) rfl rfl rfl ?_
  refine W.aload d3_42 (pc' := 44) rfl rfl rfl ?_
  refine W.iloadN d3_44 (pc' := 45) rfl rfl ?_
  refine W.pull ((kc, (IA Z .char [c0])) :: (s, (own_Str Z .null (.int (0 : Int32)))) :: F) 1 rfl rfl ?_
  refine W.callS (mCo_1 l Z n0 a0 hw u ((kc, (IA Z .char [c0])) :: (s, (own_Str Z .null (.int (0 : Int32)))) :: F) kb (nar .byte c0.toInt8.toInt32)) d3_45 (wd hw 37 rfl) (wd hw 38 rfl) (wd hw 32 rfl) (wd hw 39 rfl) (by decide) pd2 rfl rfl (Nat.le_of_ble_eq_true rfl) (Nat.le_of_ble_eq_true rfl) (Nat.le_of_ble_eq_true rfl) (Nat.le_of_ble_eq_true rfl) rfl (pc' := 48) rfl ?_
  rintro w9 v9 s9 ⟨rfl, rfl, e9⟩
  obtain rfl := e9.symm
  show W _ _ _ ("java/lang/String", "<init>", jdk_42_method_149_code, 6, none, u) _ _ 1 1 ((kb, (IA Z .byte [(nar .byte c0.toInt8.toInt32)])) :: (kc, (IA Z .char [c0])) :: (s, (own_Str Z .null (.int (0 : Int32)))) :: F) 48 #[.val (.ref s), .val (.ref kc), .val (.int (0 : Int32)), .val (.int (1 : Int32)), .val .null, .val (.ref kb)] [(.int (0 : Int32)), (.ref s)]
  refine W.putF ((kb, (IA Z .byte [(nar .byte c0.toInt8.toInt32)])) :: (kc, (IA Z .char [c0])) :: (s, (own_Str Z .null (.int (0 : Int32)))) :: F) 2 1 d3_48 (host := "") (Or.inl (wd hw 28 rfl)) Via.refl (Or.inr ⟨(wd hw 24 rfl), rfl, rfl⟩) (wd hw 8 rfl) (ty := .byte) (by decide) rfl rfl rfl rfl rfl (pc' := 51) rfl ?_
  refine W.aloadN d3_51 (pc' := 52) rfl rfl rfl ?_
  refine W.aload d3_52 (pc' := 54) rfl rfl rfl ?_
  refine W.putF ((kb, (IA Z .byte [(nar .byte c0.toInt8.toInt32)])) :: (kc, (IA Z .char [c0])) :: (s, (own_Str Z (.ref kb) (.int (0 : Int32)))) :: F) 2 0 d3_54 (host := "") (Or.inl (wd hw 27 rfl)) Via.refl (Or.inr ⟨(wd hw 23 rfl), rfl, rfl⟩) (wd hw 8 rfl) (ty := (.array .byte)) (by decide) rfl rfl rfl rfl rfl (pc' := 57) rfl ?_
  refine W.pulls ((s, (own_Str Z (.ref kb) (.int (0 : Int32)))) :: (kc, (IA Z .char [c0])) :: (kb, (IA Z .byte [(nar .byte c0.toInt8.toInt32)])) :: F) [1, 2] rfl ?_
  exact W.retV d3_57 rfl (by decide) (by decide) ⟨rfl, rfl, kb, rfl⟩
theorem pn_mS1_1 : plainFor (⟨"java/lang/String", "<init>", "([C)V"⟩ : MethodName) = true := by first | (refine plainFor_of_name ?_; simp [plainName, overriddenIn]; done) | (refine plainFor_of_name ?_; decide +kernel) | decide +kernel
set_option maxRecDepth 65536 in
set_option maxHeartbeats 40000000 in
theorem mS1_1 (l : Launch) (Z : State) (n0 : Nat) (a0 : Array Value) (hw : ∀ d ∈ tables_1, d.before a0 Z = true) (u : Lst) (cs : Int32) (hcs : ¬ cs = 0) (hst : Sta Z Z.heap "java/lang/String" "COMPACT_STRINGS" "Z" (.int cs)) (F : Asn) (s kc : Addr) (c0 : Int32) (h0 : ¬ 255 < c0) : Sp l Z n0 u (⟨"java/lang/String", "<init>", "([C)V"⟩ : MethodName) jdk_42_method_3_code 2 none ({ frames := 3, cells := 1, slots := 1, locals := 52 } : Room) [(.ref s), (.ref kc)] ((s, (own_Str Z .null (.int (0 : Int32)))) :: (kc, (IA Z .char [c0])) :: F) (fun w v σ' => u = w ∧ v = none ∧ ∃ kb, σ' = (s, (own_Str Z (.ref kb) (.int (0 : Int32)))) :: (kc, IA Z .char [c0]) :: (kb, IA Z .byte [(nar .byte c0.toInt8.toInt32)]) :: F) := by
  refine Sp.of (ls := #[.val (.ref s), .val (.ref kc)]) pn_mS1_1 (fun m => by first | (simp [entryFrame, mkF, argsToLocals, Value.category]; done) | rfl) ?_
  show W _ _ _ ("java/lang/String", "<init>", jdk_42_method_3_code, 2, none, u) _ _ 0 0 ((s, (own_Str Z .null (.int (0 : Int32)))) :: (kc, (IA Z .char [c0])) :: F) 0 #[.val (.ref s), .val (.ref kc)] []
  refine W.aloadN d2_0 (pc' := 1) rfl rfl rfl ?_
  refine W.aloadN d2_1 (pc' := 2) rfl rfl rfl ?_
  refine W.iconst (0 : Int32) d2_2 (pc' := 3) rfl rfl ?_
  refine W.aloadN d2_3 (pc' := 4) rfl rfl rfl ?_
  refine W.len 1 (1 : Int32) d2_4 rfl rfl (pc' := 5) rfl ?_
  refine W.aconstNull d2_5 (pc' := 6) rfl ?_
  refine W.callI (mS2_1 l Z n0 a0 hw u cs hcs hst F s kc c0 h0) d2_6 rfl (wd hw 14 rfl) (wd hw 15 rfl) (wd hw 9 rfl) (wd hw 17 rfl) (by decide) pd3 rfl rfl (Nat.le_of_ble_eq_true rfl) (Nat.le_of_ble_eq_true rfl) (Nat.le_of_ble_eq_true rfl) (Nat.le_of_ble_eq_true rfl) rfl (pc' := 9) rfl ?_
  rintro _ _ _ ⟨rfl, rfl, kb, rfl⟩
  show W _ _ _ ("java/lang/String", "<init>", jdk_42_method_3_code, 2, none, u) _ _ 1 1 ((s, (own_Str Z (.ref kb) (.int (0 : Int32)))) :: (kc, (IA Z .char [c0])) :: (kb, (IA Z .byte [(nar .byte c0.toInt8.toInt32)])) :: F) 9 #[.val (.ref s), .val (.ref kc)] []
  exact W.retV d2_9 rfl (by decide) (by decide) ⟨rfl, rfl, kb, rfl⟩
theorem pn_mC1_2 : plainFor (⟨"java/lang/StringUTF16", "compress", "([CI[BII)I"⟩ : MethodName) = true := by first | (refine plainFor_of_name ?_; simp [plainName, overriddenIn]; done) | (refine plainFor_of_name ?_; decide +kernel) | decide +kernel
set_option maxRecDepth 65536 in
set_option maxHeartbeats 40000000 in
theorem mC1_2 (l : Launch) (Z : State) (n0 : Nat) (a0 : Array Value) (hw : ∀ d ∈ tables_1, d.before a0 Z = true) (u : Lst) (F : Asn) (kc kb : Addr) (c0 : Int32) (c1 : Int32) (h0 : ¬ 255 < c0) (h1 : ¬ 255 < c1) : Sp l Z n0 u (⟨"java/lang/StringUTF16", "compress", "([CI[BII)I"⟩ : MethodName) jdk_52_method_21_code 7 (some .int) ({ frames := 0, cells := 0, slots := 0, locals := 0 } : Room) [(.ref kc), (.int (0 : Int32)), (.ref kb), (.int (0 : Int32)), (.int (2 : Int32))] ((kc, (IA Z .char [c0, c1])) :: (kb, (IA Z .byte [0, 0])) :: F) (Ret u (some (.int 2)) ((kc, IA Z .char [c0, c1]) :: (kb, IA Z .byte [(nar .byte c0.toInt8.toInt32), (nar .byte c1.toInt8.toInt32)]) :: F)) := by
  refine Sp.of (ls := #[.val (.ref kc), .val (.int (0 : Int32)), .val (.ref kb), .val (.int (0 : Int32)), .val (.int (2 : Int32)), .unset, .unset]) pn_mC1_2 (fun m => by first | (simp [entryFrame, mkF, argsToLocals, Value.category]; done) | rfl) ?_
  show W _ _ _ ("java/lang/StringUTF16", "compress", jdk_52_method_21_code, 7, (some .int), u) _ _ 0 0 ((kc, (IA Z .char [c0, c1])) :: (kb, (IA Z .byte [0, 0])) :: F) 0 #[.val (.ref kc), .val (.int (0 : Int32)), .val (.ref kb), .val (.int (0 : Int32)), .val (.int (2 : Int32)), .unset, .unset] []
  refine W.iconst (0 : Int32) d6_0 (pc' := 1) rfl rfl ?_
  refine W.istore #[.val (.ref kc), .val (.int (0 : Int32)), .val (.ref kb), .val (.int (0 : Int32)), .val (.int (2 : Int32)), .val (.int (0 : Int32)), .unset] d6_1 (pc' := 3) rfl rfl ?_
  refine W.iload d6_3 (pc' := 5) rfl rfl ?_
  refine W.iload d6_5 (pc' := 7) rfl rfl ?_
  refine W.icmpN d6_7 (by decide) (pc' := 10) rfl ?_
  refine W.aloadN d6_10 (pc' := 11) rfl rfl rfl ?_
  refine W.iloadN d6_11 (pc' := 12) rfl rfl ?_
  refine W.caload 0 0 (x := c0) d6_12 rfl (by decide) rfl rfl (pc' := 13) rfl ?_
  refine W.istore #[.val (.ref kc), .val (.int (0 : Int32)), .val (.ref kb), .val (.int (0 : Int32)), .val (.int (2 : Int32)), .val (.int (0 : Int32)), .val (.int c0)] d6_13 (pc' := 15) rfl rfl ?_
  refine W.iload d6_15 (pc' := 17) rfl rfl ?_
  refine W.sipush (255 : Int32) d6_17 (pc' := 20) rfl rfl ?_
  refine W.icmpY d6_20 (XT.ii_le_t h0) (by decide) (pc' := 26) rfl ?_
  refine W.aloadN d6_26 (pc' := 27) rfl rfl rfl ?_
  refine W.iloadN d6_27 (pc' := 28) rfl rfl ?_
  refine W.iload d6_28 (pc' := 30) rfl rfl ?_
  refine W.i2b d6_30 (pc' := 31) rfl ?_
  refine W.bastore ((kc, (IA Z .char [c0, c1])) :: (kb, (IA Z .byte [(nar .byte c0.toInt8.toInt32), 0])) :: F) 1 0 d6_31 rfl (by decide) rfl (Nat.le_of_ble_eq_true rfl) rfl (pc' := 32) rfl ?_
  refine W.iinc #[.val (.ref kc), .val (.int (1 : Int32)), .val (.ref kb), .val (.int (0 : Int32)), .val (.int (2 : Int32)), .val (.int (0 : Int32)), .val (.int c0)] (1 : Int32) (1 : Int32) d6_32 (pc' := 35) rfl rfl rfl (by decide) rfl ?_
  refine W.iinc #[.val (.ref kc), .val (.int (1 : Int32)), .val (.ref kb), .val (.int (1 : Int32)), .val (.int (2 : Int32)), .val (.int (0 : Int32)), .val (.int c0)] (1 : Int32) (1 : Int32) d6_35 (pc' := 38) rfl rfl rfl (by decide) rfl ?_
  refine W.iinc #[.val (.ref kc), .val (.int (1 : Int32)), .val (.ref kb), .val (.int (1 : Int32)), .val (.int (2 : Int32)), .val (.int (1 : Int32)), .val (.int c0)] (1 : Int32) (1 : Int32) d6_38 (pc' := 41) rfl rfl rfl (by decide) rfl ?_
  refine W.goto d6_41 (pc' := 3) (by decide) rfl ?_
  refine W.iload d6_3 (pc' := 5) rfl rfl ?_
  refine W.iload d6_5 (pc' := 7) rfl rfl ?_
  refine W.icmpN d6_7 (by decide) (pc' := 10) rfl ?_
  refine W.aloadN d6_10 (pc' := 11) rfl rfl rfl ?_
  refine W.iloadN d6_11 (pc' := 12) rfl rfl ?_
  refine W.caload 0 1 (x := c1) d6_12 rfl (by decide) rfl rfl (pc' := 13) rfl ?_
  refine W.istore #[.val (.ref kc), .val (.int (1 : Int32)), .val (.ref kb), .val (.int (1 : Int32)), .val (.int (2 : Int32)), .val (.int (1 : Int32)), .val (.int c1)] d6_13 (pc' := 15) rfl rfl ?_
  refine W.iload d6_15 (pc' := 17) rfl rfl ?_
  refine W.sipush (255 : Int32) d6_17 (pc' := 20) rfl rfl ?_
  refine W.icmpY d6_20 (XT.ii_le_t h1) (by decide) (pc' := 26) rfl ?_
  refine W.aloadN d6_26 (pc' := 27) rfl rfl rfl ?_
  refine W.iloadN d6_27 (pc' := 28) rfl rfl ?_
  refine W.iload d6_28 (pc' := 30) rfl rfl ?_
  refine W.i2b d6_30 (pc' := 31) rfl ?_
  refine W.bastore ((kc, (IA Z .char [c0, c1])) :: (kb, (IA Z .byte [(nar .byte c0.toInt8.toInt32), (nar .byte c1.toInt8.toInt32)])) :: F) 1 1 d6_31 rfl (by decide) rfl (Nat.le_of_ble_eq_true rfl) rfl (pc' := 32) rfl ?_
  refine W.iinc #[.val (.ref kc), .val (.int (2 : Int32)), .val (.ref kb), .val (.int (1 : Int32)), .val (.int (2 : Int32)), .val (.int (1 : Int32)), .val (.int c1)] (1 : Int32) (2 : Int32) d6_32 (pc' := 35) rfl rfl rfl (by decide) rfl ?_
  refine W.iinc #[.val (.ref kc), .val (.int (2 : Int32)), .val (.ref kb), .val (.int (2 : Int32)), .val (.int (2 : Int32)), .val (.int (1 : Int32)), .val (.int c1)] (1 : Int32) (2 : Int32) d6_35 (pc' := 38) rfl rfl rfl (by decide) rfl ?_
  refine W.iinc #[.val (.ref kc), .val (.int (2 : Int32)), .val (.ref kb), .val (.int (2 : Int32)), .val (.int (2 : Int32)), .val (.int (2 : Int32)), .val (.int c1)] (1 : Int32) (2 : Int32) d6_38 (pc' := 41) rfl rfl rfl (by decide) rfl ?_
  refine W.goto d6_41 (pc' := 3) (by decide) rfl ?_
  refine W.iload d6_3 (pc' := 5) rfl rfl ?_
  refine W.iload d6_5 (pc' := 7) rfl rfl ?_
  refine W.icmpY d6_7 (by decide) (by decide) (pc' := 44) rfl ?_
  refine W.iload d6_44 (pc' := 46) rfl rfl ?_
  exact W.retI d6_46 rfl (by decide) (by decide) ⟨rfl, rfl, rfl⟩
theorem pn_mC2_2 : plainFor (⟨"java/lang/StringUTF16", "compress", "([CII)[B"⟩ : MethodName) = true := by first | (refine plainFor_of_name ?_; simp [plainName, overriddenIn]; done) | (refine plainFor_of_name ?_; decide +kernel) | decide +kernel
set_option maxRecDepth 65536 in
set_option maxHeartbeats 40000000 in
theorem mC2_2 (l : Launch) (Z : State) (n0 : Nat) (a0 : Array Value) (hw : ∀ d ∈ tables_1, d.before a0 Z = true) (u : Lst) (F : Asn) (kc : Addr) (c0 : Int32) (c1 : Int32) (h0 : ¬ 255 < c0) (h1 : ¬ 255 < c1) : Sp l Z n0 u (⟨"java/lang/StringUTF16", "compress", "([CII)[B"⟩ : MethodName) jdk_52_method_16_code 6 (some (.array .byte)) ({ frames := 1, cells := 1, slots := 2, locals := 18 } : Room) [(.ref kc), (.int (0 : Int32)), (.int (2 : Int32))] ((kc, (IA Z .char [c0, c1])) :: F) (fun w v σ' => u = w ∧ ∃ kb, v = some (.ref kb) ∧ σ' = (kc, IA Z .char [c0, c1]) :: (kb, IA Z .byte [(nar .byte c0.toInt8.toInt32), (nar .byte c1.toInt8.toInt32)]) :: F) := by
  refine Sp.of (ls := #[.val (.ref kc), .val (.int (0 : Int32)), .val (.int (2 : Int32)), .unset, .unset, .unset]) pn_mC2_2 (fun m => by first | (simp [entryFrame, mkF, argsToLocals, Value.category]; done) | rfl) ?_
  show W _ _ _ ("java/lang/StringUTF16", "compress", jdk_52_method_16_code, 6, (some (.array .byte)), u) _ _ 0 0 ((kc, (IA Z .char [c0, c1])) :: F) 0 #[.val (.ref kc), .val (.int (0 : Int32)), .val (.int (2 : Int32)), .unset, .unset, .unset] []
  refine W.iloadN d5_0 (pc' := 1) rfl rfl ?_
  refine W.newI 2 2 d5_1 (wd hw 22 rfl) rfl (by decide) rfl (by decide) (by decide) (by decide) (by decide) (pc' := 3) rfl ?_
  intro kb
  show W _ _ _ ("java/lang/StringUTF16", "compress", jdk_52_method_16_code, 6, (some (.array .byte)), u) _ _ 1 2 ((kb, (IA Z .byte [0, 0])) :: (kc, (IA Z .char [c0, c1])) :: F) 3 #[.val (.ref kc), .val (.int (0 : Int32)), .val (.int (2 : Int32)), .unset, .unset, .unset] [(.ref kb)]
  refine W.astoreN #[.val (.ref kc), .val (.int (0 : Int32)), .val (.int (2 : Int32)), .val (.ref kb), .unset, .unset] d5_3 (pc' := 4) rfl rfl rfl ?_
  refine W.aloadN d5_4 (pc' := 5) rfl rfl rfl ?_
  refine W.iloadN d5_5 (pc' := 6) rfl rfl ?_
  refine W.aloadN d5_6 (pc' := 7) rfl rfl rfl ?_
  refine W.iconst (0 : Int32) d5_7 (pc' := 8) rfl rfl ?_
  refine W.iloadN d5_8 (pc' := 9) rfl rfl ?_
  refine W.pull ((kb, (IA Z .byte [0, 0])) :: F) 1 rfl rfl ?_
  refine W.callS (mC1_2 l Z n0 a0 hw u F kc kb c0 c1 h0 h1) d5_9 (wd hw 34 rfl) (wd hw 35 rfl) (wd hw 32 rfl) (wd hw 36 rfl) (by decide) pd0 rfl rfl (Nat.le_of_ble_eq_true rfl) (Nat.le_of_ble_eq_true rfl) (Nat.le_of_ble_eq_true rfl) (Nat.le_of_ble_eq_true rfl) rfl (pc' := 12) rfl ?_
  rintro w9 v9 s9 ⟨rfl, rfl, e9⟩
  obtain rfl := e9.symm
  show W _ _ _ ("java/lang/StringUTF16", "compress", jdk_52_method_16_code, 6, (some (.array .byte)), u) _ _ 1 2 ((kc, (IA Z .char [c0, c1])) :: (kb, (IA Z .byte [(nar .byte c0.toInt8.toInt32), (nar .byte c1.toInt8.toInt32)])) :: F) 12 #[.val (.ref kc), .val (.int (0 : Int32)), .val (.int (2 : Int32)), .val (.ref kb), .unset, .unset] [(.int (2 : Int32))]
  refine W.istore #[.val (.ref kc), .val (.int (0 : Int32)), .val (.int (2 : Int32)), .val (.ref kb), .val (.int (2 : Int32)), .unset] d5_12 (pc' := 14) rfl rfl ?_
  refine W.iload d5_14 (pc' := 16) rfl rfl ?_
  refine W.iloadN d5_16 (pc' := 17) rfl rfl ?_
  refine W.icmpY d5_17 (by decide) (by decide) (pc' := 57) rfl ?_
  refine W.aloadN d5_57 (pc' := 58) rfl rfl rfl ?_
  exact W.retA (t := (.array .byte)) d5_58 rfl rfl rfl rfl (by decide) (by decide) ⟨rfl, kb, rfl, rfl⟩
theorem pn_mCo_2 : plainFor (⟨"java/lang/StringUTF16", "coderFromArrayLen", "([BI)B"⟩ : MethodName) = true := by first | (refine plainFor_of_name ?_; simp [plainName, overriddenIn]; done) | (refine plainFor_of_name ?_; decide +kernel) | decide +kernel
set_option maxRecDepth 65536 in
set_option maxHeartbeats 40000000 in
theorem mCo_2 (l : Launch) (Z : State) (n0 : Nat) (a0 : Array Value) (hw : ∀ d ∈ tables_1, d.before a0 Z = true) (u : Lst) (F : Asn) (kb : Addr) (x0 x1 : Int32) : Sp l Z n0 u (⟨"java/lang/StringUTF16", "coderFromArrayLen", "([BI)B"⟩ : MethodName) jdk_52_method_15_code 2 (some .byte) ({ frames := 0, cells := 0, slots := 0, locals := 0 } : Room) [(.ref kb), (.int (2 : Int32))] ((kb, (IA Z .byte [x0, x1])) :: F) (Ret u (some (.int 0)) ((kb, IA Z .byte [x0, x1]) :: F)) := by
  refine Sp.of (ls := #[.val (.ref kb), .val (.int (2 : Int32))]) pn_mCo_2 (fun m => by first | (simp [entryFrame, mkF, argsToLocals, Value.category]; done) | rfl) ?_
  show W _ _ _ ("java/lang/StringUTF16", "coderFromArrayLen", jdk_52_method_15_code, 2, (some .byte), u) _ _ 0 0 ((kb, (IA Z .byte [x0, x1])) :: F) 0 #[.val (.ref kb), .val (.int (2 : Int32))] []
  refine W.iloadN d7_0 (pc' := 1) rfl rfl ?_
  refine W.aloadN d7_1 (pc' := 2) rfl rfl rfl ?_
  refine W.len 0 (2 : Int32) d7_2 rfl rfl (pc' := 3) rfl ?_
  refine W.isub d7_3 (pc' := 4) rfl ?_
  refine W.topI (0 : Int32) (by decide) ?_
  refine W.bipush (31 : Int32) d7_4 (pc' := 6) rfl rfl ?_
  refine W.iushr d7_6 (pc' := 7) rfl ?_
  refine W.i2b d7_7 (pc' := 8) rfl ?_
  exact W.retN (t := .byte) 0 d7_8 rfl (by simp) (by decide) (by decide) (by decide) ⟨rfl, rfl, rfl⟩
theorem pn_mS2_2 : plainFor (⟨"java/lang/String", "<init>", "([CIILjava/lang/Void;)V"⟩ : MethodName) = true := by first | (refine plainFor_of_name ?_; simp [plainName, overriddenIn]; done) | (refine plainFor_of_name ?_; decide +kernel) | decide +kernel
set_option maxRecDepth 65536 in
set_option maxHeartbeats 40000000 in
theorem mS2_2 (l : Launch) (Z : State) (n0 : Nat) (a0 : Array Value) (hw : ∀ d ∈ tables_1, d.before a0 Z = true) (u : Lst) (cs : Int32) (hcs : ¬ cs = 0) (hst : Sta Z Z.heap "java/lang/String" "COMPACT_STRINGS" "Z" (.int cs)) (F : Asn) (s kc : Addr) (c0 : Int32) (c1 : Int32) (h0 : ¬ 255 < c0) (h1 : ¬ 255 < c1) : Sp l Z n0 u (⟨"java/lang/String", "<init>", "([CIILjava/lang/Void;)V"⟩ : MethodName) jdk_42_method_149_code 6 none ({ frames := 2, cells := 1, slots := 2, locals := 35 } : Room) [(.ref s), (.ref kc), (.int (0 : Int32)), (.int (2 : Int32)), .null] ((s, (own_Str Z .null (.int (0 : Int32)))) :: (kc, (IA Z .char [c0, c1])) :: F) (fun w v σ' => u = w ∧ v = none ∧ ∃ kb, σ' = (s, (own_Str Z (.ref kb) (.int (0 : Int32)))) :: (kc, IA Z .char [c0, c1]) :: (kb, IA Z .byte [(nar .byte c0.toInt8.toInt32), (nar .byte c1.toInt8.toInt32)]) :: F) := by
  refine Sp.of (ls := #[.val (.ref s), .val (.ref kc), .val (.int (0 : Int32)), .val (.int (2 : Int32)), .val .null, .unset]) pn_mS2_2 (fun m => by first | (simp [entryFrame, mkF, argsToLocals, Value.category]; done) | rfl) ?_
  show W _ _ _ ("java/lang/String", "<init>", jdk_42_method_149_code, 6, none, u) _ _ 0 0 ((s, (own_Str Z .null (.int (0 : Int32)))) :: (kc, (IA Z .char [c0, c1])) :: F) 0 #[.val (.ref s), .val (.ref kc), .val (.int (0 : Int32)), .val (.int (2 : Int32)), .val .null, .unset] []
  refine W.aloadN d3_0 (pc' := 1) rfl rfl rfl ?_
  refine W.initO d3_1 (wd hw 18 rfl) (wd hw 19 rfl) (wd hw 20 rfl) rfl (Nat.le_of_ble_eq_true rfl) (Nat.le_of_ble_eq_true rfl) (pc' := 4) rfl ?_
  refine W.iloadN d3_4 (pc' := 5) rfl rfl ?_
  refine W.ifY d3_5 (by decide) (by decide) (pc' := 27) rfl ?_
  refine W.getS d3_27 (wd hw 29 rfl) Via.refl hst (pc' := 30) rfl ?_
  refine W.ifN d3_30 (XT.i0_eq_f hcs) (pc' := 33) rfl ?_
  refine W.aloadN d3_33 (pc' := 34) rfl rfl rfl ?_
  refine W.iloadN d3_34 (pc' := 35) rfl rfl ?_
  refine W.iloadN d3_35 (pc' := 36) rfl rfl ?_
  refine W.pull ((s, (own_Str Z .null (.int (0 : Int32)))) :: F) 1 rfl rfl ?_
  refine W.callS (mC2_2 l Z n0 a0 hw u ((s, (own_Str Z .null (.int (0 : Int32)))) :: F) kc c0 c1 h0 h1) d3_36 (wd hw 30 rfl) (wd hw 31 rfl) (wd hw 32 rfl) (wd hw 33 rfl) (by decide) pd1 rfl rfl (Nat.le_of_ble_eq_true rfl) (Nat.le_of_ble_eq_true rfl) (Nat.le_of_ble_eq_true rfl) (Nat.le_of_ble_eq_true rfl) rfl (pc' := 39) rfl ?_
  rintro _ _ _ ⟨rfl, kb, rfl, rfl⟩
  show W _ _ _ ("java/lang/String", "<init>", jdk_42_method_149_code, 6, none, u) _ _ 1 2 ((kc, (IA Z .char [c0, c1])) :: (kb, (IA Z .byte [(nar .byte c0.toInt8.toInt32), (nar .byte c1.toInt8.toInt32)])) :: (s, (own_Str Z .null (.int (0 : Int32)))) :: F) 39 #[.val (.ref s), .val (.ref kc), .val (.int (0 : Int32)), .val (.int (2 : Int32)), .val .null, .unset] [(.ref kb)]
  refine W.astore #[.val (.ref s), .val (.ref kc), .val (.int (0 : Int32)), .val (.int (2 : Int32)), .val .null, .val (.ref kb)] d3_39 (pc' := 41) rfl rfl rfl ?_
  refine W.aloadN d3_41 (pc' := 42) rfl rfl rfl ?_
  refine W.aload d3_42 (pc' := 44) rfl rfl rfl ?_
  refine W.iloadN d3_44 (pc' := 45) rfl rfl ?_
  refine W.pull ((kc, (IA Z .char [c0, c1])) :: (s, (own_Str Z .null (.int (0 : Int32)))) :: F) 1 rfl rfl ?_
  refine W.callS (mCo_2 l Z n0 a0 hw u ((kc, (IA Z .char [c0, c1])) :: (s, (own_Str Z .null (.int (0 : Int32)))) :: F) kb (nar .byte c0.toInt8.toInt32) (nar .byte c1.toInt8.toInt32)) d3_45 (wd hw 37 rfl) (wd hw 38 rfl) (wd hw 32 rfl) (wd hw 39 rfl) (by decide) pd2 rfl rfl (Nat.le_of_ble_eq_true rfl) (Nat.le_of_ble_eq_true rfl) (Nat.le_of_ble_eq_true rfl) (Nat.le_of_ble_eq_true rfl) rfl (pc' := 48) rfl ?_
  rintro w9 v9 s9 ⟨rfl, rfl, e9⟩
  obtain rfl := e9.symm
  show W _ _ _ ("java/lang/String", "<init>", jdk_42_method_149_code, 6, none, u) _ _ 1 2 ((kb, (IA Z .byte [(nar .byte c0.toInt8.toInt32), (nar .byte c1.toInt8.toInt32)])) :: (kc, (IA Z .char [c0, c1])) :: (s, (own_Str Z .null (.int (0 : Int32)))) :: F) 48 #[.val (.ref s), .val (.ref kc), .val (.int (0 : Int32)), .val (.int (2 : Int32)), .val .null, .val (.ref kb)] [(.int (0 : Int32)), (.ref s)]
  refine W.putF ((kb, (IA Z .byte [(nar .byte c0.toInt8.toInt32), (nar .byte c1.toInt8.toInt32)])) :: (kc, (IA Z .char [c0, c1])) :: (s, (own_Str Z .null (.int (0 : Int32)))) :: F) 2 1 d3_48 (host := "") (Or.inl (wd hw 28 rfl)) Via.refl (Or.inr ⟨(wd hw 24 rfl), rfl, rfl⟩) (wd hw 8 rfl) (ty := .byte) (by decide) rfl rfl rfl rfl rfl (pc' := 51) rfl ?_
  refine W.aloadN d3_51 (pc' := 52) rfl rfl rfl ?_
  refine W.aload d3_52 (pc' := 54) rfl rfl rfl ?_
  refine W.putF ((kb, (IA Z .byte [(nar .byte c0.toInt8.toInt32), (nar .byte c1.toInt8.toInt32)])) :: (kc, (IA Z .char [c0, c1])) :: (s, (own_Str Z (.ref kb) (.int (0 : Int32)))) :: F) 2 0 d3_54 (host := "") (Or.inl (wd hw 27 rfl)) Via.refl (Or.inr ⟨(wd hw 23 rfl), rfl, rfl⟩) (wd hw 8 rfl) (ty := (.array .byte)) (by decide) rfl rfl rfl rfl rfl (pc' := 57) rfl ?_
  refine W.pulls ((s, (own_Str Z (.ref kb) (.int (0 : Int32)))) :: (kc, (IA Z .char [c0, c1])) :: (kb, (IA Z .byte [(nar .byte c0.toInt8.toInt32), (nar .byte c1.toInt8.toInt32)])) :: F) [1, 2] rfl ?_
  exact W.retV d3_57 rfl (by decide) (by decide) ⟨rfl, rfl, kb, rfl⟩
theorem pn_mS1_2 : plainFor (⟨"java/lang/String", "<init>", "([C)V"⟩ : MethodName) = true := by first | (refine plainFor_of_name ?_; simp [plainName, overriddenIn]; done) | (refine plainFor_of_name ?_; decide +kernel) | decide +kernel
set_option maxRecDepth 65536 in
set_option maxHeartbeats 40000000 in
theorem mS1_2 (l : Launch) (Z : State) (n0 : Nat) (a0 : Array Value) (hw : ∀ d ∈ tables_1, d.before a0 Z = true) (u : Lst) (cs : Int32) (hcs : ¬ cs = 0) (hst : Sta Z Z.heap "java/lang/String" "COMPACT_STRINGS" "Z" (.int cs)) (F : Asn) (s kc : Addr) (c0 : Int32) (c1 : Int32) (h0 : ¬ 255 < c0) (h1 : ¬ 255 < c1) : Sp l Z n0 u (⟨"java/lang/String", "<init>", "([C)V"⟩ : MethodName) jdk_42_method_3_code 2 none ({ frames := 3, cells := 1, slots := 2, locals := 52 } : Room) [(.ref s), (.ref kc)] ((s, (own_Str Z .null (.int (0 : Int32)))) :: (kc, (IA Z .char [c0, c1])) :: F) (fun w v σ' => u = w ∧ v = none ∧ ∃ kb, σ' = (s, (own_Str Z (.ref kb) (.int (0 : Int32)))) :: (kc, IA Z .char [c0, c1]) :: (kb, IA Z .byte [(nar .byte c0.toInt8.toInt32), (nar .byte c1.toInt8.toInt32)]) :: F) := by
  refine Sp.of (ls := #[.val (.ref s), .val (.ref kc)]) pn_mS1_2 (fun m => by first | (simp [entryFrame, mkF, argsToLocals, Value.category]; done) | rfl) ?_
  show W _ _ _ ("java/lang/String", "<init>", jdk_42_method_3_code, 2, none, u) _ _ 0 0 ((s, (own_Str Z .null (.int (0 : Int32)))) :: (kc, (IA Z .char [c0, c1])) :: F) 0 #[.val (.ref s), .val (.ref kc)] []
  refine W.aloadN d2_0 (pc' := 1) rfl rfl rfl ?_
  refine W.aloadN d2_1 (pc' := 2) rfl rfl rfl ?_
  refine W.iconst (0 : Int32) d2_2 (pc' := 3) rfl rfl ?_
  refine W.aloadN d2_3 (pc' := 4) rfl rfl rfl ?_
  refine W.len 1 (2 : Int32) d2_4 rfl rfl (pc' := 5) rfl ?_
  refine W.aconstNull d2_5 (pc' := 6) rfl ?_
  refine W.callI (mS2_2 l Z n0 a0 hw u cs hcs hst F s kc c0 c1 h0 h1) d2_6 rfl (wd hw 14 rfl) (wd hw 15 rfl) (wd hw 9 rfl) (wd hw 17 rfl) (by decide) pd3 rfl rfl (Nat.le_of_ble_eq_true rfl) (Nat.le_of_ble_eq_true rfl) (Nat.le_of_ble_eq_true rfl) (Nat.le_of_ble_eq_true rfl) rfl (pc' := 9) rfl ?_
  rintro _ _ _ ⟨rfl, rfl, kb, rfl⟩
  show W _ _ _ ("java/lang/String", "<init>", jdk_42_method_3_code, 2, none, u) _ _ 1 2 ((s, (own_Str Z (.ref kb) (.int (0 : Int32)))) :: (kc, (IA Z .char [c0, c1])) :: (kb, (IA Z .byte [(nar .byte c0.toInt8.toInt32), (nar .byte c1.toInt8.toInt32)])) :: F) 9 #[.val (.ref s), .val (.ref kc)] []
  exact W.retV d2_9 rfl (by decide) (by decide) ⟨rfl, rfl, kb, rfl⟩
theorem pn_mC1_3 : plainFor (⟨"java/lang/StringUTF16", "compress", "([CI[BII)I"⟩ : MethodName) = true := by first | (refine plainFor_of_name ?_; simp [plainName, overriddenIn]; done) | (refine plainFor_of_name ?_; decide +kernel) | decide +kernel
set_option maxRecDepth 65536 in
set_option maxHeartbeats 40000000 in
theorem mC1_3 (l : Launch) (Z : State) (n0 : Nat) (a0 : Array Value) (hw : ∀ d ∈ tables_1, d.before a0 Z = true) (u : Lst) (F : Asn) (kc kb : Addr) (c0 : Int32) (c1 : Int32) (c2 : Int32) (h0 : ¬ 255 < c0) (h1 : ¬ 255 < c1) (h2 : ¬ 255 < c2) : Sp l Z n0 u (⟨"java/lang/StringUTF16", "compress", "([CI[BII)I"⟩ : MethodName) jdk_52_method_21_code 7 (some .int) ({ frames := 0, cells := 0, slots := 0, locals := 0 } : Room) [(.ref kc), (.int (0 : Int32)), (.ref kb), (.int (0 : Int32)), (.int (3 : Int32))] ((kc, (IA Z .char [c0, c1, c2])) :: (kb, (IA Z .byte [0, 0, 0])) :: F) (Ret u (some (.int 3)) ((kc, IA Z .char [c0, c1, c2]) :: (kb, IA Z .byte [(nar .byte c0.toInt8.toInt32), (nar .byte c1.toInt8.toInt32), (nar .byte c2.toInt8.toInt32)]) :: F)) := by
  refine Sp.of (ls := #[.val (.ref kc), .val (.int (0 : Int32)), .val (.ref kb), .val (.int (0 : Int32)), .val (.int (3 : Int32)), .unset, .unset]) pn_mC1_3 (fun m => by first | (simp [entryFrame, mkF, argsToLocals, Value.category]; done) | rfl) ?_
  show W _ _ _ ("java/lang/StringUTF16", "compress", jdk_52_method_21_code, 7, (some .int), u) _ _ 0 0 ((kc, (IA Z .char [c0, c1, c2])) :: (kb, (IA Z .byte [0, 0, 0])) :: F) 0 #[.val (.ref kc), .val (.int (0 : Int32)), .val (.ref kb), .val (.int (0 : Int32)), .val (.int (3 : Int32)), .unset, .unset] []
  refine W.iconst (0 : Int32) d6_0 (pc' := 1) rfl rfl ?_
  refine W.istore #[.val (.ref kc), .val (.int (0 : Int32)), .val (.ref kb), .val (.int (0 : Int32)), .val (.int (3 : Int32)), .val (.int (0 : Int32)), .unset] d6_1 (pc' := 3) rfl rfl ?_
  refine W.iload d6_3 (pc' := 5) rfl rfl ?_
  refine W.iload d6_5 (pc' := 7) rfl rfl ?_
  refine W.icmpN d6_7 (by decide) (pc' := 10) rfl ?_
  refine W.aloadN d6_10 (pc' := 11) rfl rfl rfl ?_
  refine W.iloadN d6_11 (pc' := 12) rfl rfl ?_
  refine W.caload 0 0 (x := c0) d6_12 rfl (by decide) rfl rfl (pc' := 13) rfl ?_
  refine W.istore #[.val (.ref kc), .val (.int (0 : Int32)), .val (.ref kb), .val (.int (0 : Int32)), .val (.int (3 : Int32)), .val (.int (0 : Int32)), .val (.int c0)] d6_13 (pc' := 15) rfl rfl ?_
  refine W.iload d6_15 (pc' := 17) rfl rfl ?_
  refine W.sipush (255 : Int32) d6_17 (pc' := 20) rfl rfl ?_
  refine W.icmpY d6_20 (XT.ii_le_t h0) (by decide) (pc' := 26) rfl ?_
  refine W.aloadN d6_26 (pc' := 27) rfl rfl rfl ?_
  refine W.iloadN d6_27 (pc' := 28) rfl rfl ?_
  refine W.iload d6_28 (pc' := 30) rfl rfl ?_
  refine W.i2b d6_30 (pc' := 31) rfl ?_
  refine W.bastore ((kc, (IA Z .char [c0, c1, c2])) :: (kb, (IA Z .byte [(nar .byte c0.toInt8.toInt32), 0, 0])) :: F) 1 0 d6_31 rfl (by decide) rfl (Nat.le_of_ble_eq_true rfl) rfl (pc' := 32) rfl ?_
  refine W.iinc #[.val (.ref kc), .val (.int (1 : Int32)), .val (.ref kb), .val (.int (0 : Int32)), .val (.int (3 : Int32)), .val (.int (0 : Int32)), .val (.int c0)] (1 : Int32) (1 : Int32) d6_32 (pc' := 35) rfl rfl rfl (by decide) rfl ?_
  refine W.iinc #[.val (.ref kc), .val (.int (1 : Int32)), .val (.ref kb), .val (.int (1 : Int32)), .val (.int (3 : Int32)), .val (.int (0 : Int32)), .val (.int c0)] (1 : Int32) (1 : Int32) d6_35 (pc' := 38) rfl rfl rfl (by decide) rfl ?_
  refine W.iinc #[.val (.ref kc), .val (.int (1 : Int32)), .val (.ref kb), .val (.int (1 : Int32)), .val (.int (3 : Int32)), .val (.int (1 : Int32)), .val (.int c0)] (1 : Int32) (1 : Int32) d6_38 (pc' := 41) rfl rfl rfl (by decide) rfl ?_
  refine W.goto d6_41 (pc' := 3) (by decide) rfl ?_
  refine W.iload d6_3 (pc' := 5) rfl rfl ?_
  refine W.iload d6_5 (pc' := 7) rfl rfl ?_
  refine W.icmpN d6_7 (by decide) (pc' := 10) rfl ?_
  refine W.aloadN d6_10 (pc' := 11) rfl rfl rfl ?_
  refine W.iloadN d6_11 (pc' := 12) rfl rfl ?_
  refine W.caload 0 1 (x := c1) d6_12 rfl (by decide) rfl rfl (pc' := 13) rfl ?_
  refine W.istore #[.val (.ref kc), .val (.int (1 : Int32)), .val (.ref kb), .val (.int (1 : Int32)), .val (.int (3 : Int32)), .val (.int (1 : Int32)), .val (.int c1)] d6_13 (pc' := 15) rfl rfl ?_
  refine W.iload d6_15 (pc' := 17) rfl rfl ?_
  refine W.sipush (255 : Int32) d6_17 (pc' := 20) rfl rfl ?_
  refine W.icmpY d6_20 (XT.ii_le_t h1) (by decide) (pc' := 26) rfl ?_
  refine W.aloadN d6_26 (pc' := 27) rfl rfl rfl ?_
  refine W.iloadN d6_27 (pc' := 28) rfl rfl ?_
  refine W.iload d6_28 (pc' := 30) rfl rfl ?_
  refine W.i2b d6_30 (pc' := 31) rfl ?_
  refine W.bastore ((kc, (IA Z .char [c0, c1, c2])) :: (kb, (IA Z .byte [(nar .byte c0.toInt8.toInt32), (nar .byte c1.toInt8.toInt32), 0])) :: F) 1 1 d6_31 rfl (by decide) rfl (Nat.le_of_ble_eq_true rfl) rfl (pc' := 32) rfl ?_
  refine W.iinc #[.val (.ref kc), .val (.int (2 : Int32)), .val (.ref kb), .val (.int (1 : Int32)), .val (.int (3 : Int32)), .val (.int (1 : Int32)), .val (.int c1)] (1 : Int32) (2 : Int32) d6_32 (pc' := 35) rfl rfl rfl (by decide) rfl ?_
  refine W.iinc #[.val (.ref kc), .val (.int (2 : Int32)), .val (.ref kb), .val (.int (2 : Int32)), .val (.int (3 : Int32)), .val (.int (1 : Int32)), .val (.int c1)] (1 : Int32) (2 : Int32) d6_35 (pc' := 38) rfl rfl rfl (by decide) rfl ?_
  refine W.iinc #[.val (.ref kc), .val (.int (2 : Int32)), .val (.ref kb), .val (.int (2 : Int32)), .val (.int (3 : Int32)), .val (.int (2 : Int32)), .val (.int c1)] (1 : Int32) (2 : Int32) d6_38 (pc' := 41) rfl rfl rfl (by decide) rfl ?_
  refine W.goto d6_41 (pc' := 3) (by decide) rfl ?_
  refine W.iload d6_3 (pc' := 5) rfl rfl ?_
  refine W.iload d6_5 (pc' := 7) rfl rfl ?_
  refine W.icmpN d6_7 (by decide) (pc' := 10) rfl ?_
  refine W.aloadN d6_10 (pc' := 11) rfl rfl rfl ?_
  refine W.iloadN d6_11 (pc' := 12) rfl rfl ?_
  refine W.caload 0 2 (x := c2) d6_12 rfl (by decide) rfl rfl (pc' := 13) rfl ?_
  refine W.istore #[.val (.ref kc), .val (.int (2 : Int32)), .val (.ref kb), .val (.int (2 : Int32)), .val (.int (3 : Int32)), .val (.int (2 : Int32)), .val (.int c2)] d6_13 (pc' := 15) rfl rfl ?_
  refine W.iload d6_15 (pc' := 17) rfl rfl ?_
  refine W.sipush (255 : Int32) d6_17 (pc' := 20) rfl rfl ?_
  refine W.icmpY d6_20 (XT.ii_le_t h2) (by decide) (pc' := 26) rfl ?_
  refine W.aloadN d6_26 (pc' := 27) rfl rfl rfl ?_
  refine W.iloadN d6_27 (pc' := 28) rfl rfl ?_
  refine W.iload d6_28 (pc' := 30) rfl rfl ?_
  refine W.i2b d6_30 (pc' := 31) rfl ?_
  refine W.bastore ((kc, (IA Z .char [c0, c1, c2])) :: (kb, (IA Z .byte [(nar .byte c0.toInt8.toInt32), (nar .byte c1.toInt8.toInt32), (nar .byte c2.toInt8.toInt32)])) :: F) 1 2 d6_31 rfl (by decide) rfl (Nat.le_of_ble_eq_true rfl) rfl (pc' := 32) rfl ?_
  refine W.iinc #[.val (.ref kc), .val (.int (3 : Int32)), .val (.ref kb), .val (.int (2 : Int32)), .val (.int (3 : Int32)), .val (.int (2 : Int32)), .val (.int c2)] (1 : Int32) (3 : Int32) d6_32 (pc' := 35) rfl rfl rfl (by decide) rfl ?_
  refine W.iinc #[.val (.ref kc), .val (.int (3 : Int32)), .val (.ref kb), .val (.int (3 : Int32)), .val (.int (3 : Int32)), .val (.int (2 : Int32)), .val (.int c2)] (1 : Int32) (3 : Int32) d6_35 (pc' := 38) rfl rfl rfl (by decide) rfl ?_
  refine W.iinc #[.val (.ref kc), .val (.int (3 : Int32)), .val (.ref kb), .val (.int (3 : Int32)), .val (.int (3 : Int32)), .val (.int (3 : Int32)), .val (.int c2)] (1 : Int32) (3 : Int32) d6_38 (pc' := 41) rfl rfl rfl (by decide) rfl ?_
  refine W.goto d6_41 (pc' := 3) (by decide) rfl ?_
  refine W.iload d6_3 (pc' := 5) rfl rfl ?_
  refine W.iload d6_5 (pc' := 7) rfl rfl ?_
  refine W.icmpY d6_7 (by decide) (by decide) (pc' := 44) rfl ?_
  refine W.iload d6_44 (pc' := 46) rfl rfl ?_
  exact W.retI d6_46 rfl (by decide) (by decide) ⟨rfl, rfl, rfl⟩
theorem pn_mC2_3 : plainFor (⟨"java/lang/StringUTF16", "compress", "([CII)[B"⟩ : MethodName) = true := by first | (refine plainFor_of_name ?_; simp [plainName, overriddenIn]; done) | (refine plainFor_of_name ?_; decide +kernel) | decide +kernel
set_option maxRecDepth 65536 in
set_option maxHeartbeats 40000000 in
theorem mC2_3 (l : Launch) (Z : State) (n0 : Nat) (a0 : Array Value) (hw : ∀ d ∈ tables_1, d.before a0 Z = true) (u : Lst) (F : Asn) (kc : Addr) (c0 : Int32) (c1 : Int32) (c2 : Int32) (h0 : ¬ 255 < c0) (h1 : ¬ 255 < c1) (h2 : ¬ 255 < c2) : Sp l Z n0 u (⟨"java/lang/StringUTF16", "compress", "([CII)[B"⟩ : MethodName) jdk_52_method_16_code 6 (some (.array .byte)) ({ frames := 1, cells := 1, slots := 3, locals := 18 } : Room) [(.ref kc), (.int (0 : Int32)), (.int (3 : Int32))] ((kc, (IA Z .char [c0, c1, c2])) :: F) (fun w v σ' => u = w ∧ ∃ kb, v = some (.ref kb) ∧ σ' = (kc, IA Z .char [c0, c1, c2]) :: (kb, IA Z .byte [(nar .byte c0.toInt8.toInt32), (nar .byte c1.toInt8.toInt32), (nar .byte c2.toInt8.toInt32)]) :: F) := by
  refine Sp.of (ls := #[.val (.ref kc), .val (.int (0 : Int32)), .val (.int (3 : Int32)), .unset, .unset, .unset]) pn_mC2_3 (fun m => by first | (simp [entryFrame, mkF, argsToLocals, Value.category]; done) | rfl) ?_
  show W _ _ _ ("java/lang/StringUTF16", "compress", jdk_52_method_16_code, 6, (some (.array .byte)), u) _ _ 0 0 ((kc, (IA Z .char [c0, c1, c2])) :: F) 0 #[.val (.ref kc), .val (.int (0 : Int32)), .val (.int (3 : Int32)), .unset, .unset, .unset] []
  refine W.iloadN d5_0 (pc' := 1) rfl rfl ?_
  refine W.newI 3 3 d5_1 (wd hw 22 rfl) rfl (by decide) rfl (by decide) (by decide) (by decide) (by decide) (pc' := 3) rfl ?_
  intro kb
  show W _ _ _ ("java/lang/StringUTF16", "compress", jdk_52_method_16_code, 6, (some (.array .byte)), u) _ _ 1 3 ((kb, (IA Z .byte [0, 0, 0])) :: (kc, (IA Z .char [c0, c1, c2])) :: F) 3 #[.val (.ref kc), .val (.int (0 : Int32)), .val (.int (3 : Int32)), .unset, .unset, .unset] [(.ref kb)]
  refine W.astoreN #[.val (.ref kc), .val (.int (0 : Int32)), .val (.int (3 : Int32)), .val (.ref kb), .unset, .unset] d5_3 (pc' := 4) rfl rfl rfl ?_
  refine W.aloadN d5_4 (pc' := 5) rfl rfl rfl ?_
  refine W.iloadN d5_5 (pc' := 6) rfl rfl ?_
  refine W.aloadN d5_6 (pc' := 7) rfl rfl rfl ?_
  refine W.iconst (0 : Int32) d5_7 (pc' := 8) rfl rfl ?_
  refine W.iloadN d5_8 (pc' := 9) rfl rfl ?_
  refine W.pull ((kb, (IA Z .byte [0, 0, 0])) :: F) 1 rfl rfl ?_
  refine W.callS (mC1_3 l Z n0 a0 hw u F kc kb c0 c1 c2 h0 h1 h2) d5_9 (wd hw 34 rfl) (wd hw 35 rfl) (wd hw 32 rfl) (wd hw 36 rfl) (by decide) pd0 rfl rfl (Nat.le_of_ble_eq_true rfl) (Nat.le_of_ble_eq_true rfl) (Nat.le_of_ble_eq_true rfl) (Nat.le_of_ble_eq_true rfl) rfl (pc' := 12) rfl ?_
  rintro w9 v9 s9 ⟨rfl, rfl, e9⟩
  obtain rfl := e9.symm
  show W _ _ _ ("java/lang/StringUTF16", "compress", jdk_52_method_16_code, 6, (some (.array .byte)), u) _ _ 1 3 ((kc, (IA Z .char [c0, c1, c2])) :: (kb, (IA Z .byte [(nar .byte c0.toInt8.toInt32), (nar .byte c1.toInt8.toInt32), (nar .byte c2.toInt8.toInt32)])) :: F) 12 #[.val (.ref kc), .val (.int (0 : Int32)), .val (.int (3 : Int32)), .val (.ref kb), .unset, .unset] [(.int (3 : Int32))]
  refine W.istore #[.val (.ref kc), .val (.int (0 : Int32)), .val (.int (3 : Int32)), .val (.ref kb), .val (.int (3 : Int32)), .unset] d5_12 (pc' := 14) rfl rfl ?_
  refine W.iload d5_14 (pc' := 16) rfl rfl ?_
  refine W.iloadN d5_16 (pc' := 17) rfl rfl ?_
  refine W.icmpY d5_17 (by decide) (by decide) (pc' := 57) rfl ?_
  refine W.aloadN d5_57 (pc' := 58) rfl rfl rfl ?_
  exact W.retA (t := (.array .byte)) d5_58 rfl rfl rfl rfl (by decide) (by decide) ⟨rfl, kb, rfl, rfl⟩
theorem pn_mCo_3 : plainFor (⟨"java/lang/StringUTF16", "coderFromArrayLen", "([BI)B"⟩ : MethodName) = true := by first | (refine plainFor_of_name ?_; simp [plainName, overriddenIn]; done) | (refine plainFor_of_name ?_; decide +kernel) | decide +kernel
set_option maxRecDepth 65536 in
set_option maxHeartbeats 40000000 in
theorem mCo_3 (l : Launch) (Z : State) (n0 : Nat) (a0 : Array Value) (hw : ∀ d ∈ tables_1, d.before a0 Z = true) (u : Lst) (F : Asn) (kb : Addr) (x0 x1 x2 : Int32) : Sp l Z n0 u (⟨"java/lang/StringUTF16", "coderFromArrayLen", "([BI)B"⟩ : MethodName) jdk_52_method_15_code 2 (some .byte) ({ frames := 0, cells := 0, slots := 0, locals := 0 } : Room) [(.ref kb), (.int (3 : Int32))] ((kb, (IA Z .byte [x0, x1, x2])) :: F) (Ret u (some (.int 0)) ((kb, IA Z .byte [x0, x1, x2]) :: F)) := by
  refine Sp.of (ls := #[.val (.ref kb), .val (.int (3 : Int32))]) pn_mCo_3 (fun m => by first | (simp [entryFrame, mkF, argsToLocals, Value.category]; done) | rfl) ?_
  show W _ _ _ ("java/lang/StringUTF16", "coderFromArrayLen", jdk_52_method_15_code, 2, (some .byte), u) _ _ 0 0 ((kb, (IA Z .byte [x0, x1, x2])) :: F) 0 #[.val (.ref kb), .val (.int (3 : Int32))] []
  refine W.iloadN d7_0 (pc' := 1) rfl rfl ?_
  refine W.aloadN d7_1 (pc' := 2) rfl rfl rfl ?_
  refine W.len 0 (3 : Int32) d7_2 rfl rfl (pc' := 3) rfl ?_
  refine W.isub d7_3 (pc' := 4) rfl ?_
  refine W.topI (0 : Int32) (by decide) ?_
  refine W.bipush (31 : Int32) d7_4 (pc' := 6) rfl rfl ?_
  refine W.iushr d7_6 (pc' := 7) rfl ?_
  refine W.i2b d7_7 (pc' := 8) rfl ?_
  exact W.retN (t := .byte) 0 d7_8 rfl (by simp) (by decide) (by decide) (by decide) ⟨rfl, rfl, rfl⟩
theorem pn_mS2_3 : plainFor (⟨"java/lang/String", "<init>", "([CIILjava/lang/Void;)V"⟩ : MethodName) = true := by first | (refine plainFor_of_name ?_; simp [plainName, overriddenIn]; done) | (refine plainFor_of_name ?_; decide +kernel) | decide +kernel
set_option maxRecDepth 65536 in
set_option maxHeartbeats 40000000 in
theorem mS2_3 (l : Launch) (Z : State) (n0 : Nat) (a0 : Array Value) (hw : ∀ d ∈ tables_1, d.before a0 Z = true) (u : Lst) (cs : Int32) (hcs : ¬ cs = 0) (hst : Sta Z Z.heap "java/lang/String" "COMPACT_STRINGS" "Z" (.int cs)) (F : Asn) (s kc : Addr) (c0 : Int32) (c1 : Int32) (c2 : Int32) (h0 : ¬ 255 < c0) (h1 : ¬ 255 < c1) (h2 : ¬ 255 < c2) : Sp l Z n0 u (⟨"java/lang/String", "<init>", "([CIILjava/lang/Void;)V"⟩ : MethodName) jdk_42_method_149_code 6 none ({ frames := 2, cells := 1, slots := 3, locals := 35 } : Room) [(.ref s), (.ref kc), (.int (0 : Int32)), (.int (3 : Int32)), .null] ((s, (own_Str Z .null (.int (0 : Int32)))) :: (kc, (IA Z .char [c0, c1, c2])) :: F) (fun w v σ' => u = w ∧ v = none ∧ ∃ kb, σ' = (s, (own_Str Z (.ref kb) (.int (0 : Int32)))) :: (kc, IA Z .char [c0, c1, c2]) :: (kb, IA Z .byte [(nar .byte c0.toInt8.toInt32), (nar .byte c1.toInt8.toInt32), (nar .byte c2.toInt8.toInt32)]) :: F) := by
  refine Sp.of (ls := #[.val (.ref s), .val (.ref kc), .val (.int (0 : Int32)), .val (.int (3 : Int32)), .val .null, .unset]) pn_mS2_3 (fun m => by first | (simp [entryFrame, mkF, argsToLocals, Value.category]; done) | rfl) ?_
  show W _ _ _ ("java/lang/String", "<init>", jdk_42_method_149_code, 6, none, u) _ _ 0 0 ((s, (own_Str Z .null (.int (0 : Int32)))) :: (kc, (IA Z .char [c0, c1, c2])) :: F) 0 #[.val (.ref s), .val (.ref kc), .val (.int (0 : Int32)), .val (.int (3 : Int32)), .val .null, .unset] []
  refine W.aloadN d3_0 (pc' := 1) rfl rfl rfl ?_
  refine W.initO d3_1 (wd hw 18 rfl) (wd hw 19 rfl) (wd hw 20 rfl) rfl (Nat.le_of_ble_eq_true rfl) (Nat.le_of_ble_eq_true rfl) (pc' := 4) rfl ?_
  refine W.iloadN d3_4 (pc' := 5) rfl rfl ?_
  refine W.ifY d3_5 (by decide) (by decide) (pc' := 27) rfl ?_
  refine W.getS d3_27 (wd hw 29 rfl) Via.refl hst (pc' := 30) rfl ?_
  refine W.ifN d3_30 (XT.i0_eq_f hcs) (pc' := 33) rfl ?_
  refine W.aloadN d3_33 (pc' := 34) rfl rfl rfl ?_
  refine W.iloadN d3_34 (pc' := 35) rfl rfl ?_
  refine W.iloadN d3_35 (pc' := 36) rfl rfl ?_
  refine W.pull ((s, (own_Str Z .null (.int (0 : Int32)))) :: F) 1 rfl rfl ?_
  refine W.callS (mC2_3 l Z n0 a0 hw u ((s, (own_Str Z .null (.int (0 : Int32)))) :: F) kc c0 c1 c2 h0 h1 h2) d3_36 (wd hw 30 rfl) (wd hw 31 rfl) (wd hw 32 rfl) (wd hw 33 rfl) (by decide) pd1 rfl rfl (Nat.le_of_ble_eq_true rfl) (Nat.le_of_ble_eq_true rfl) (Nat.le_of_ble_eq_true rfl) (Nat.le_of_ble_eq_true rfl) rfl (pc' := 39) rfl ?_
  rintro _ _ _ ⟨rfl, kb, rfl, rfl⟩
  show W _ _ _ ("java/lang/String", "<init>", jdk_42_method_149_code, 6, none, u) _ _ 1 3 ((kc, (IA Z .char [c0, c1, c2])) :: (kb, (IA Z .byte [(nar .byte c0.toInt8.toInt32), (nar .byte c1.toInt8.toInt32), (nar .byte c2.toInt8.toInt32)])) :: (s, (own_Str Z .null (.int (0 : Int32)))) :: F) 39 #[.val (.ref s), .val (.ref kc), .val (.int (0 : Int32)), .val (.int (3 : Int32)), .val .null, .unset] [(.ref kb)]
  refine W.astore #[.val (.ref s), .val (.ref kc), .val (.int (0 : Int32)), .val (.int (3 : Int32)), .val .null, .val (.ref kb)] d3_39 (pc' := 41) rfl rfl rfl ?_
  refine W.aloadN d3_41 (pc' := 42) rfl rfl rfl ?_
  refine W.aload d3_42 (pc' := 44) rfl rfl rfl ?_
  refine W.iloadN d3_44 (pc' := 45) rfl rfl ?_
  refine W.pull ((kc, (IA Z .char [c0, c1, c2])) :: (s, (own_Str Z .null (.int (0 : Int32)))) :: F) 1 rfl rfl ?_
  refine W.callS (mCo_3 l Z n0 a0 hw u ((kc, (IA Z .char [c0, c1, c2])) :: (s, (own_Str Z .null (.int (0 : Int32)))) :: F) kb (nar .byte c0.toInt8.toInt32) (nar .byte c1.toInt8.toInt32) (nar .byte c2.toInt8.toInt32)) d3_45 (wd hw 37 rfl) (wd hw 38 rfl) (wd hw 32 rfl) (wd hw 39 rfl) (by decide) pd2 rfl rfl (Nat.le_of_ble_eq_true rfl) (Nat.le_of_ble_eq_true rfl) (Nat.le_of_ble_eq_true rfl) (Nat.le_of_ble_eq_true rfl) rfl (pc' := 48) rfl ?_
  rintro w9 v9 s9 ⟨rfl, rfl, e9⟩
  obtain rfl := e9.symm
  show W _ _ _ ("java/lang/String", "<init>", jdk_42_method_149_code, 6, none, u) _ _ 1 3 ((kb, (IA Z .byte [(nar .byte c0.toInt8.toInt32), (nar .byte c1.toInt8.toInt32), (nar .byte c2.toInt8.toInt32)])) :: (kc, (IA Z .char [c0, c1, c2])) :: (s, (own_Str Z .null (.int (0 : Int32)))) :: F) 48 #[.val (.ref s), .val (.ref kc), .val (.int (0 : Int32)), .val (.int (3 : Int32)), .val .null, .val (.ref kb)] [(.int (0 : Int32)), (.ref s)]
  refine W.putF ((kb, (IA Z .byte [(nar .byte c0.toInt8.toInt32), (nar .byte c1.toInt8.toInt32), (nar .byte c2.toInt8.toInt32)])) :: (kc, (IA Z .char [c0, c1, c2])) :: (s, (own_Str Z .null (.int (0 : Int32)))) :: F) 2 1 d3_48 (host := "") (Or.inl (wd hw 28 rfl)) Via.refl (Or.inr ⟨(wd hw 24 rfl), rfl, rfl⟩) (wd hw 8 rfl) (ty := .byte) (by decide) rfl rfl rfl rfl rfl (pc' := 51) rfl ?_
  refine W.aloadN d3_51 (pc' := 52) rfl rfl rfl ?_
  refine W.aload d3_52 (pc' := 54) rfl rfl rfl ?_
  refine W.putF ((kb, (IA Z .byte [(nar .byte c0.toInt8.toInt32), (nar .byte c1.toInt8.toInt32), (nar .byte c2.toInt8.toInt32)])) :: (kc, (IA Z .char [c0, c1, c2])) :: (s, (own_Str Z (.ref kb) (.int (0 : Int32)))) :: F) 2 0 d3_54 (host := "") (Or.inl (wd hw 27 rfl)) Via.refl (Or.inr ⟨(wd hw 23 rfl), rfl, rfl⟩) (wd hw 8 rfl) (ty := (.array .byte)) (by decide) rfl rfl rfl rfl rfl (pc' := 57) rfl ?_
  refine W.pulls ((s, (own_Str Z (.ref kb) (.int (0 : Int32)))) :: (kc, (IA Z .char [c0, c1, c2])) :: (kb, (IA Z .byte [(nar .byte c0.toInt8.toInt32), (nar .byte c1.toInt8.toInt32), (nar .byte c2.toInt8.toInt32)])) :: F) [1, 2] rfl ?_
  exact W.retV d3_57 rfl (by decide) (by decide) ⟨rfl, rfl, kb, rfl⟩
theorem pn_mS1_3 : plainFor (⟨"java/lang/String", "<init>", "([C)V"⟩ : MethodName) = true := by first | (refine plainFor_of_name ?_; simp [plainName, overriddenIn]; done) | (refine plainFor_of_name ?_; decide +kernel) | decide +kernel
set_option maxRecDepth 65536 in
set_option maxHeartbeats 40000000 in
theorem mS1_3 (l : Launch) (Z : State) (n0 : Nat) (a0 : Array Value) (hw : ∀ d ∈ tables_1, d.before a0 Z = true) (u : Lst) (cs : Int32) (hcs : ¬ cs = 0) (hst : Sta Z Z.heap "java/lang/String" "COMPACT_STRINGS" "Z" (.int cs)) (F : Asn) (s kc : Addr) (c0 : Int32) (c1 : Int32) (c2 : Int32) (h0 : ¬ 255 < c0) (h1 : ¬ 255 < c1) (h2 : ¬ 255 < c2) : Sp l Z n0 u (⟨"java/lang/String", "<init>", "([C)V"⟩ : MethodName) jdk_42_method_3_code 2 none ({ frames := 3, cells := 1, slots := 3, locals := 52 } : Room) [(.ref s), (.ref kc)] ((s, (own_Str Z .null (.int (0 : Int32)))) :: (kc, (IA Z .char [c0, c1, c2])) :: F) (fun w v σ' => u = w ∧ v = none ∧ ∃ kb, σ' = (s, (own_Str Z (.ref kb) (.int (0 : Int32)))) :: (kc, IA Z .char [c0, c1, c2]) :: (kb, IA Z .byte [(nar .byte c0.toInt8.toInt32), (nar .byte c1.toInt8.toInt32), (nar .byte c2.toInt8.toInt32)]) :: F) := by
  refine Sp.of (ls := #[.val (.ref s), .val (.ref kc)]) pn_mS1_3 (fun m => by first | (simp [entryFrame, mkF, argsToLocals, Value.category]; done) | rfl) ?_
  show W _ _ _ ("java/lang/String", "<init>", jdk_42_method_3_code, 2, none, u) _ _ 0 0 ((s, (own_Str Z .null (.int (0 : Int32)))) :: (kc, (IA Z .char [c0, c1, c2])) :: F) 0 #[.val (.ref s), .val (.ref kc)] []
  refine W.aloadN d2_0 (pc' := 1) rfl rfl rfl ?_
  refine W.aloadN d2_1 (pc' := 2) rfl rfl rfl ?_
  refine W.iconst (0 : Int32) d2_2 (pc' := 3) rfl rfl ?_
  refine W.aloadN d2_3 (pc' := 4) rfl rfl rfl ?_
  refine W.len 1 (3 : Int32) d2_4 rfl rfl (pc' := 5) rfl ?_
  refine W.aconstNull d2_5 (pc' := 6) rfl ?_
  refine W.callI (mS2_3 l Z n0 a0 hw u cs hcs hst F s kc c0 c1 c2 h0 h1 h2) d2_6 rfl (wd hw 14 rfl) (wd hw 15 rfl) (wd hw 9 rfl) (wd hw 17 rfl) (by decide) pd3 rfl rfl (Nat.le_of_ble_eq_true rfl) (Nat.le_of_ble_eq_true rfl) (Nat.le_of_ble_eq_true rfl) (Nat.le_of_ble_eq_true rfl) rfl (pc' := 9) rfl ?_
  rintro _ _ _ ⟨rfl, rfl, kb, rfl⟩
  show W _ _ _ ("java/lang/String", "<init>", jdk_42_method_3_code, 2, none, u) _ _ 1 3 ((s, (own_Str Z (.ref kb) (.int (0 : Int32)))) :: (kc, (IA Z .char [c0, c1, c2])) :: (kb, (IA Z .byte [(nar .byte c0.toInt8.toInt32), (nar .byte c1.toInt8.toInt32), (nar .byte c2.toInt8.toInt32)])) :: F) 9 #[.val (.ref s), .val (.ref kc)] []
  exact W.retV d2_9 rfl (by decide) (by decide) ⟨rfl, rfl, kb, rfl⟩
theorem pn_mE2_Z : plainFor (⟨"java/lang/String", "<init>", "([CIILjava/lang/Void;)V"⟩ : MethodName) = true := by first | (refine plainFor_of_name ?_; simp [plainName, overriddenIn]; done) | (refine plainFor_of_name ?_; decide +kernel) | decide +kernel
set_option maxRecDepth 65536 in
set_option maxHeartbeats 40000000 in
theorem mE2_Z (l : Launch) (Z : State) (n0 : Nat) (a0 : Array Value) (hw : ∀ d ∈ tables_1, d.before a0 Z = true) (F : Asn) (s kc a : Addr) (hz : ZL Z a) : Sp l Z n0 none (⟨"java/lang/String", "<init>", "([CIILjava/lang/Void;)V"⟩ : MethodName) jdk_42_method_149_code 6 none ({ frames := 1, cells := 2, slots := 4, locals := 13 } : Room) [(.ref s), (.ref kc), (.int (0 : Int32)), (.int (0 : Int32)), .null] ((s, (own_Str Z .null (.int (0 : Int32)))) :: F) (fun w v σ' => none = w ∧ v = none ∧ ∃ b, σ' = (s, (own_Str Z (.ref b) (.int (0 : Int32)))) :: F ∧ ∀ τ, RdA Z τ b []) := by
  refine Sp.of0 (ls := #[.val (.ref s), .val (.ref kc), .val (.int (0 : Int32)), .val (.int (0 : Int32)), .val .null, .unset]) pn_mE2_Z (fun m => by first | (simp [entryFrame, mkF, argsToLocals, Value.category]; done) | rfl) ?_
  obtain ⟨b, FC, FV, FA⟩ := hz.facts
  refine W0.aloadN d3_0 (pc' := 1) rfl rfl rfl ?_
  refine W0.initO d3_1 (wd hw 18 rfl) (wd hw 19 rfl) (wd hw 20 rfl) rfl (Nat.le_of_ble_eq_true rfl) (Nat.le_of_ble_eq_true rfl) (pc' := 4) rfl ?_
  refine W0.iloadN d3_4 (pc' := 5) rfl rfl ?_
  refine W0.ifN d3_5 (by decide) (pc' := 8) rfl ?_
  refine W0.aloadN d3_8 (pc' := 9) rfl rfl rfl ?_
  refine W0.ldcZ rfl hz rfl d3_9 (wd hw 21 rfl) (own_wS hw) (by decide) (by decide) (pc' := 11) rfl ?_
  show W _ _ _ ("java/lang/String", "<init>", jdk_42_method_149_code, 6, none, (some (some a))) _ _ 2 4 ((s, (own_Str Z .null (.int (0 : Int32)))) :: F) 11 #[.val (.ref s), .val (.ref kc), .val (.int (0 : Int32)), .val (.int (0 : Int32)), .val .null, .unset] [(.ref a), (.ref s)]
  refine W.getFO FV d3_11 (host := "") (Or.inl (wd hw 27 rfl)) Via.refl (pc' := 14) rfl ?_
  refine W.putF ((s, (own_Str Z (.ref b) (.int (0 : Int32)))) :: F) 0 0 d3_14 (host := "") (Or.inl (wd hw 27 rfl)) Via.refl (Or.inr ⟨(wd hw 23 rfl), rfl, rfl⟩) (wd hw 8 rfl) (ty := (.array .byte)) (by decide) rfl rfl rfl rfl rfl (pc' := 17) rfl ?_
  refine W.aloadN d3_17 (pc' := 18) rfl rfl rfl ?_
  refine W.ldcL rfl rfl d3_18 (wd hw 21 rfl) (pc' := 20) rfl ?_
  refine W.getFO FC d3_20 (host := "") (Or.inl (wd hw 28 rfl)) Via.refl (pc' := 23) rfl ?_
  refine W.putF ((s, (own_Str Z (.ref b) (.int (0 : Int32)))) :: F) 0 1 d3_23 (host := "") (Or.inl (wd hw 28 rfl)) Via.refl (Or.inr ⟨(wd hw 24 rfl), rfl, rfl⟩) (wd hw 8 rfl) (ty := .byte) (by decide) rfl rfl rfl rfl rfl (pc' := 26) rfl ?_
  refine W.forget ?_
  exact W.retV d3_26 rfl (by decide) (by decide) ⟨rfl, rfl, b, rfl, FA⟩
theorem pn_mE2_F : plainFor (⟨"java/lang/String", "<init>", "([CIILjava/lang/Void;)V"⟩ : MethodName) = true := by first | (refine plainFor_of_name ?_; simp [plainName, overriddenIn]; done) | (refine plainFor_of_name ?_; decide +kernel) | decide +kernel
set_option maxRecDepth 65536 in
set_option maxHeartbeats 40000000 in
theorem mE2_F (l : Launch) (Z : State) (n0 : Nat) (a0 : Array Value) (hw : ∀ d ∈ tables_1, d.before a0 Z = true) (F : Asn) (s kc : Addr) : Sp l Z n0 (some none) (⟨"java/lang/String", "<init>", "([CIILjava/lang/Void;)V"⟩ : MethodName) jdk_42_method_149_code 6 none ({ frames := 1, cells := 2, slots := 4, locals := 13 } : Room) [(.ref s), (.ref kc), (.int (0 : Int32)), (.int (0 : Int32)), .null] ((s, (own_Str Z .null (.int (0 : Int32)))) :: F) (fun w v σ' => v = none ∧ ∃ a b, some (some a) = w ∧ σ' = (s, (own_Str Z (.ref b) (.int (0 : Int32)))) :: (a, (own_Str Z (.ref b) (.int (0 : Int32)))) :: (b, IA Z .byte []) :: F) := by
  refine Sp.of0 (ls := #[.val (.ref s), .val (.ref kc), .val (.int (0 : Int32)), .val (.int (0 : Int32)), .val .null, .unset]) pn_mE2_F (fun m => by first | (simp [entryFrame, mkF, argsToLocals, Value.category]; done) | rfl) ?_
  refine W0.aloadN d3_0 (pc' := 1) rfl rfl rfl ?_
  refine W0.initO d3_1 (wd hw 18 rfl) (wd hw 19 rfl) (wd hw 20 rfl) rfl (Nat.le_of_ble_eq_true rfl) (Nat.le_of_ble_eq_true rfl) (pc' := 4) rfl ?_
  refine W0.iloadN d3_4 (pc' := 5) rfl rfl ?_
  refine W0.ifN d3_5 (by decide) (pc' := 8) rfl ?_
  refine W0.aloadN d3_8 (pc' := 9) rfl rfl rfl ?_
  refine W0.ldcF rfl rfl d3_9 (wd hw 21 rfl) (own_wS hw) (Or.inr (wd hw 23 rfl)) (Or.inr (wd hw 24 rfl)) (by decide) (by decide) (pc' := 11) rfl ?_
  intro a b
  show W _ _ _ ("java/lang/String", "<init>", jdk_42_method_149_code, 6, none, (some (some a))) _ _ 2 4 ((a, (own_Str Z (.ref b) (.int (0 : Int32)))) :: (b, (IA Z .byte [])) :: (s, (own_Str Z .null (.int (0 : Int32)))) :: F) 11 #[.val (.ref s), .val (.ref kc), .val (.int (0 : Int32)), .val (.int (0 : Int32)), .val .null, .unset] [(.ref a), (.ref s)]
  refine W.getF 0 0 d3_11 (host := "") (Or.inl (wd hw 27 rfl)) Via.refl rfl rfl (pc' := 14) rfl ?_
  refine W.putF ((a, (own_Str Z (.ref b) (.int (0 : Int32)))) :: (b, (IA Z .byte [])) :: (s, (own_Str Z (.ref b) (.int (0 : Int32)))) :: F) 2 0 d3_14 (host := "") (Or.inl (wd hw 27 rfl)) Via.refl (Or.inr ⟨(wd hw 23 rfl), rfl, rfl⟩) (wd hw 8 rfl) (ty := (.array .byte)) (by decide) rfl rfl rfl rfl rfl (pc' := 17) rfl ?_
  refine W.aloadN d3_17 (pc' := 18) rfl rfl rfl ?_
  refine W.ldcL rfl rfl d3_18 (wd hw 21 rfl) (pc' := 20) rfl ?_
  refine W.getF 0 1 d3_20 (host := "") (Or.inl (wd hw 28 rfl)) Via.refl rfl rfl (pc' := 23) rfl ?_
  refine W.putF ((a, (own_Str Z (.ref b) (.int (0 : Int32)))) :: (b, (IA Z .byte [])) :: (s, (own_Str Z (.ref b) (.int (0 : Int32)))) :: F) 2 1 d3_23 (host := "") (Or.inl (wd hw 28 rfl)) Via.refl (Or.inr ⟨(wd hw 24 rfl), rfl, rfl⟩) (wd hw 8 rfl) (ty := .byte) (by decide) rfl rfl rfl rfl rfl (pc' := 26) rfl ?_
  refine W.pulls ((s, (own_Str Z (.ref b) (.int (0 : Int32)))) :: (a, (own_Str Z (.ref b) (.int (0 : Int32)))) :: (b, (IA Z .byte [])) :: F) [2] rfl ?_
  exact W.retV d3_26 rfl (by decide) (by decide) ⟨rfl, a, b, rfl, rfl⟩
theorem pn_mE2_L : plainFor (⟨"java/lang/String", "<init>", "([CIILjava/lang/Void;)V"⟩ : MethodName) = true := by first | (refine plainFor_of_name ?_; simp [plainName, overriddenIn]; done) | (refine plainFor_of_name ?_; decide +kernel) | decide +kernel
set_option maxRecDepth 65536 in
set_option maxHeartbeats 40000000 in
theorem mE2_L (l : Launch) (Z : State) (n0 : Nat) (a0 : Array Value) (hw : ∀ d ∈ tables_1, d.before a0 Z = true) (F : Asn) (s kc a b : Addr) (h1 : (a, (own_Str Z (.ref b) (.int (0 : Int32)))) ∈ F) : Sp l Z n0 (some (some a)) (⟨"java/lang/String", "<init>", "([CIILjava/lang/Void;)V"⟩ : MethodName) jdk_42_method_149_code 6 none ({ frames := 1, cells := 2, slots := 4, locals := 13 } : Room) [(.ref s), (.ref kc), (.int (0 : Int32)), (.int (0 : Int32)), .null] ((s, (own_Str Z .null (.int (0 : Int32)))) :: F) (Ret (some (some a)) none ((s, (own_Str Z (.ref b) (.int (0 : Int32)))) :: F)) := by
  refine Sp.of (ls := #[.val (.ref s), .val (.ref kc), .val (.int (0 : Int32)), .val (.int (0 : Int32)), .val .null, .unset]) pn_mE2_L (fun m => by first | (simp [entryFrame, mkF, argsToLocals, Value.category]; done) | rfl) ?_
  show W _ _ _ ("java/lang/String", "<init>", jdk_42_method_149_code, 6, none, (some (some a))) _ _ 0 0 ((s, (own_Str Z .null (.int (0 : Int32)))) :: F) 0 #[.val (.ref s), .val (.ref kc), .val (.int (0 : Int32)), .val (.int (0 : Int32)), .val .null, .unset] []
  refine W.aloadN d3_0 (pc' := 1) rfl rfl rfl ?_
  refine W.initO d3_1 (wd hw 18 rfl) (wd hw 19 rfl) (wd hw 20 rfl) rfl (Nat.le_of_ble_eq_true rfl) (Nat.le_of_ble_eq_true rfl) (pc' := 4) rfl ?_
  refine W.iloadN d3_4 (pc' := 5) rfl rfl ?_
  refine W.ifN d3_5 (by decide) (pc' := 8) rfl ?_
  refine W.aloadN d3_8 (pc' := 9) rfl rfl rfl ?_
  refine W.ldcL rfl rfl d3_9 (wd hw 21 rfl) (pc' := 11) rfl ?_
  refine W.getM 0 (List.mem_cons_of_mem _ h1) d3_11 (host := "") (Or.inl (wd hw 27 rfl)) Via.refl rfl (pc' := 14) rfl ?_
  refine W.putF ((s, (own_Str Z (.ref b) (.int (0 : Int32)))) :: F) 0 0 d3_14 (host := "") (Or.inl (wd hw 27 rfl)) Via.refl (Or.inr ⟨(wd hw 23 rfl), rfl, rfl⟩) (wd hw 8 rfl) (ty := (.array .byte)) (by decide) rfl rfl rfl rfl rfl (pc' := 17) rfl ?_
  refine W.aloadN d3_17 (pc' := 18) rfl rfl rfl ?_
  refine W.ldcL rfl rfl d3_18 (wd hw 21 rfl) (pc' := 20) rfl ?_
  refine W.getM 1 (List.mem_cons_of_mem _ h1) d3_20 (host := "") (Or.inl (wd hw 28 rfl)) Via.refl rfl (pc' := 23) rfl ?_
  refine W.putF ((s, (own_Str Z (.ref b) (.int (0 : Int32)))) :: F) 0 1 d3_23 (host := "") (Or.inl (wd hw 28 rfl)) Via.refl (Or.inr ⟨(wd hw 24 rfl), rfl, rfl⟩) (wd hw 8 rfl) (ty := .byte) (by decide) rfl rfl rfl rfl rfl (pc' := 26) rfl ?_
  exact W.retV d3_26 rfl (by decide) (by decide) ⟨rfl, rfl, rfl⟩
theorem mE2 (l : Launch) (Z : State) (n0 : Nat) (a0 : Array Value) (hw : ∀ d ∈ tables_1, d.before a0 Z = true) (u : Lst) (F F0 : Asn) (hF : ∀ z ∈ F0, z ∈ F) (s kc : Addr) (h : own_HU Z u F0) : Sp l Z n0 u (⟨"java/lang/String", "<init>", "([CIILjava/lang/Void;)V"⟩ : MethodName) jdk_42_method_149_code 6 none ({ frames := 1, cells := 2, slots := 4, locals := 13 } : Room) [.ref s, .ref kc, .int 0, .int 0, .null] ((s, own_Str Z .null (.int 0)) :: F) (own_QE Z F F0 s) := by
  match u, h with
  | none, ⟨a, hz⟩ => exact Sp.mono (fun w v σ' ⟨e1, e2, b, e3, e4⟩ => ⟨e2, b, [], e3, e4 _, by subst e1; exact ⟨a, hz⟩⟩) (mE2_Z l Z n0 a0 hw F s kc a hz)
  | some none, _ => exact Sp.mono (fun w v σ' ⟨e1, a, b, e2, e3⟩ => ⟨e1, b, [(a, own_Str Z (.ref b) (.int 0)), (b, IA Z .byte [])], e3, Or.inr (by simp), by subst e2; exact ⟨b, by simp, by simp⟩⟩) (mE2_F l Z n0 a0 hw F s kc)
  | some (some a), ⟨b, h1, h2⟩ => exact Sp.mono (fun w v σ' ⟨e1, e2, e3⟩ => ⟨e2, b, [], e3, Or.inr h2, by subst e1; exact ⟨b, h1, h2⟩⟩) (mE2_L l Z n0 a0 hw F s kc a b (hF _ h1))
theorem pn_mE1 : plainFor (⟨"java/lang/String", "<init>", "([C)V"⟩ : MethodName) = true := by first | (refine plainFor_of_name ?_; simp [plainName, overriddenIn]; done) | (refine plainFor_of_name ?_; decide +kernel) | decide +kernel
set_option maxRecDepth 65536 in
set_option maxHeartbeats 40000000 in
theorem mE1 (l : Launch) (Z : State) (n0 : Nat) (a0 : Array Value) (hw : ∀ d ∈ tables_1, d.before a0 Z = true) (u : Lst) (F F0 : Asn) (hF : ∀ z ∈ F0, z ∈ F) (s kc : Addr) (h : own_HU Z u F0) : Sp l Z n0 u (⟨"java/lang/String", "<init>", "([C)V"⟩ : MethodName) jdk_42_method_3_code 2 none ({ frames := 2, cells := 2, slots := 4, locals := 31 } : Room) [(.ref s), (.ref kc)] ((s, (own_Str Z .null (.int (0 : Int32)))) :: (kc, (IA Z .char [])) :: F) (own_QE Z F F0 s) := by
  refine Sp.of (ls := #[.val (.ref s), .val (.ref kc)]) pn_mE1 (fun m => by first | (simp [entryFrame, mkF, argsToLocals, Value.category]; done) | rfl) ?_
  show W _ _ _ ("java/lang/String", "<init>", jdk_42_method_3_code, 2, none, u) _ _ 0 0 ((s, (own_Str Z .null (.int (0 : Int32)))) :: (kc, (IA Z .char [])) :: F) 0 #[.val (.ref s), .val (.ref kc)] []
  refine W.aloadN d2_0 (pc' := 1) rfl rfl rfl ?_
  refine W.aloadN d2_1 (pc' := 2) rfl rfl rfl ?_
  refine W.iconst (0 : Int32) d2_2 (pc' := 3) rfl rfl ?_
  refine W.aloadN d2_3 (pc' := 4) rfl rfl rfl ?_
  refine W.len 1 (0 : Int32) d2_4 rfl rfl (pc' := 5) rfl ?_
  refine W.aconstNull d2_5 (pc' := 6) rfl ?_
  refine W.callI (mE2 l Z n0 a0 hw u ((kc, (IA Z .char [])) :: F) F0 (fun z hz => List.mem_cons_of_mem _ (hF z hz)) s kc h) d2_6 rfl (wd hw 14 rfl) (wd hw 15 rfl) (wd hw 9 rfl) (wd hw 17 rfl) (by decide) pd3 rfl rfl (Nat.le_of_ble_eq_true rfl) (Nat.le_of_ble_eq_true rfl) (Nat.le_of_ble_eq_true rfl) (Nat.le_of_ble_eq_true rfl) rfl (pc' := 9) rfl ?_
  rintro w _ _ ⟨rfl, b, E, rfl, hR, hU⟩
  show W _ _ _ ("java/lang/String", "<init>", jdk_42_method_3_code, 2, none, w) _ _ 2 4 ((s, (own_Str Z (.ref b) (.int (0 : Int32)))) :: (E ++ (kc, IA Z .char []) :: F)) 9 #[.val (.ref s), .val (.ref kc)] []
  exact W.retV d2_9 rfl (by decide) (by decide) ⟨rfl, b, E ++ [(kc, IA Z .char [])], by rw [List.append_assoc]; rfl, hR.mono (own_put _), hU.mono (own_put _)⟩
theorem pn_mStr : plainFor (⟨"com/example/lost_update_guard/lostupdateguard/TableEqualsPinLaw", "str", "(I)Ljava/lang/String;"⟩ : MethodName) = true := by first | (refine plainFor_of_name ?_; simp [plainName, overriddenIn]; done) | (refine plainFor_of_name ?_; decide +kernel) | decide +kernel
set_option maxRecDepth 65536 in
set_option maxHeartbeats 40000000 in
theorem mStr (l : Launch) (Z : State) (n0 : Nat) (a0 : Array Value) (hw : ∀ d ∈ tables_1, d.before a0 Z = true) (u : Lst) (cs : Int32) (hcs : ¬ cs = 0) (hst : Sta Z Z.heap "java/lang/String" "COMPACT_STRINGS" "Z" (.int cs)) (F F0 : Asn) (hF : ∀ z ∈ F0, z ∈ F) (x : Int32) (h : own_HU Z u F0) : Sp l Z n0 u (⟨"com/example/lost_update_guard/lostupdateguard/TableEqualsPinLaw", "str", "(I)Ljava/lang/String;"⟩ : MethodName) method_3_code 5 (some (.object "java/lang/String")) ({ frames := 4, cells := 4, slots := 10, locals := 66 } : Room) [(.int x)] (F) (own_QS Z F F0 (own_txt x)) := by
  refine Sp.of (ls := #[.val (.int x), .unset, .unset, .unset, .unset]) pn_mStr (fun m => by first | (simp [entryFrame, mkF, argsToLocals, Value.category]; done) | rfl) ?_
  show W _ _ _ ("com/example/lost_update_guard/lostupdateguard/TableEqualsPinLaw", "str", method_3_code, 5, (some (.object "java/lang/String")), u) _ _ 0 0 (F) 0 #[.val (.int x), .unset, .unset, .unset, .unset] []
  refine W.iloadN d1_0 (pc' := 1) rfl rfl ?_
  refine W.iconst (3 : Int32) d1_1 (pc' := 2) rfl rfl ?_
  refine W.iand d1_2 (pc' := 3) rfl ?_
  refine W.istoreN #[.val (.int x), .val (.int (x &&& (3 : Int32))), .unset, .unset, .unset] d1_3 (pc' := 4) rfl rfl ?_
  refine W.iloadN d1_4 (pc' := 5) rfl rfl ?_
  refine W.iconst (2 : Int32) d1_5 (pc' := 6) rfl rfl ?_
  refine W.iushr d1_6 (pc' := 7) rfl ?_
  refine W.sipush (255 : Int32) d1_7 (pc' := 10) rfl rfl ?_
  refine W.iand d1_10 (pc' := 11) rfl ?_
  refine W.i2c d1_11 (pc' := 12) rfl ?_
  refine W.topI (XT.ushr x 2 &&& 255) (i2c_mask _) ?_
  refine W.istoreN #[.val (.int x), .val (.int (x &&& (3 : Int32))), .val (.int (XT.ushr x 2 &&& 255)), .unset, .unset] d1_12 (pc' := 13) rfl rfl ?_
  refine W.iloadN d1_13 (pc' := 14) rfl rfl ?_
  refine W.bipush (10 : Int32) d1_14 (pc' := 16) rfl rfl ?_
  refine W.iushr d1_16 (pc' := 17) rfl ?_
  refine W.sipush (255 : Int32) d1_17 (pc' := 20) rfl rfl ?_
  refine W.iand d1_20 (pc' := 21) rfl ?_
  refine W.i2c d1_21 (pc' := 22) rfl ?_
  refine W.topI (XT.ushr x 10 &&& 255) (i2c_mask _) ?_
  refine W.istoreN #[.val (.int x), .val (.int (x &&& (3 : Int32))), .val (.int (XT.ushr x 2 &&& 255)), .val (.int (XT.ushr x 10 &&& 255)), .unset] d1_22 (pc' := 23) rfl rfl ?_
  refine W.iloadN d1_23 (pc' := 24) rfl rfl ?_
  refine W.bipush (18 : Int32) d1_24 (pc' := 26) rfl rfl ?_
  refine W.iushr d1_26 (pc' := 27) rfl ?_
  refine W.sipush (255 : Int32) d1_27 (pc' := 30) rfl rfl ?_
  refine W.iand d1_30 (pc' := 31) rfl ?_
  refine W.i2c d1_31 (pc' := 32) rfl ?_
  refine W.topI (XT.ushr x 18 &&& 255) (i2c_mask _) ?_
  refine W.istore #[.val (.int x), .val (.int (x &&& (3 : Int32))), .val (.int (XT.ushr x 2 &&& 255)), .val (.int (XT.ushr x 10 &&& 255)), .val (.int (XT.ushr x 18 &&& 255))] d1_32 (pc' := 34) rfl rfl ?_
  refine W.iloadN d1_34 (pc' := 35) rfl rfl ?_
  by_cases g0 : (x &&& (3 : Int32)) = 0
  · refine W.ifN d1_35 (XT.i0_ne_f g0) (pc' := 38) rfl ?_
    have ht : own_txt x = [] := by simp [own_txt, g0]
    refine W.new [("java/lang/String", "value", "[B", .null), ("java/lang/String", "coder", "B", (.int (0 : Int32)))] d1_38 (wd hw 7 rfl) (wd hw 8 rfl) (wd hw 9 rfl) ⟨⟨Or.inr (wd hw 23 rfl), (.array .byte), by decide, rfl⟩, ⟨Or.inr (wd hw 24 rfl), .byte, by decide, rfl⟩, trivial⟩ (by decide) (by decide) (by decide) (pc' := 41) rfl ?_
    intro s
    show W _ _ _ ("com/example/lost_update_guard/lostupdateguard/TableEqualsPinLaw", "str", method_3_code, 5, (some (.object "java/lang/String")), u) _ _ 1 4 ((s, (own_Str Z .null (.int (0 : Int32)))) :: F) 41 #[.val (.int x), .val (.int (x &&& (3 : Int32))), .val (.int (XT.ushr x 2 &&& 255)), .val (.int (XT.ushr x 10 &&& 255)), .val (.int (XT.ushr x 18 &&& 255))] [(.ref s)]
    refine W.dup d1_41 (pc' := 42) rfl rfl ?_
    refine W.iconst (0 : Int32) d1_42 (pc' := 43) rfl rfl ?_
    refine W.newI 0 0 d1_43 (wd hw 10 rfl) rfl (by decide) rfl (by decide) (by decide) (by decide) (by decide) (pc' := 45) rfl ?_
    intro kc
    show W _ _ _ ("com/example/lost_update_guard/lostupdateguard/TableEqualsPinLaw", "str", method_3_code, 5, (some (.object "java/lang/String")), u) _ _ 2 4 ((kc, (IA Z .char [])) :: (s, (own_Str Z .null (.int (0 : Int32)))) :: F) 45 #[.val (.int x), .val (.int (x &&& (3 : Int32))), .val (.int (XT.ushr x 2 &&& 255)), .val (.int (XT.ushr x 10 &&& 255)), .val (.int (XT.ushr x 18 &&& 255))] [(.ref kc), (.ref s), (.ref s)]
    refine W.pulls ((s, (own_Str Z .null (.int (0 : Int32)))) :: (kc, (IA Z .char [])) :: F) [1] rfl ?_
    refine W.callI (mE1 l Z n0 a0 hw u F F0 hF s kc h) d1_45 rfl (wd hw 11 rfl) (wd hw 12 rfl) (wd hw 9 rfl) (wd hw 13 rfl) (by decide) pd4 rfl rfl (Nat.le_of_ble_eq_true rfl) (Nat.le_of_ble_eq_true rfl) (Nat.le_of_ble_eq_true rfl) (Nat.le_of_ble_eq_true rfl) rfl (pc' := 48) rfl ?_
    rintro w _ _ ⟨rfl, b, E, rfl, hR, hU⟩
    show W _ _ _ ("com/example/lost_update_guard/lostupdateguard/TableEqualsPinLaw", "str", method_3_code, 5, (some (.object "java/lang/String")), w) _ _ 4 8 ((s, (own_Str Z (.ref b) (.int (0 : Int32)))) :: (E ++ F)) 48 #[.val (.int x), .val (.int (x &&& (3 : Int32))), .val (.int (XT.ushr x 2 &&& 255)), .val (.int (XT.ushr x 10 &&& 255)), .val (.int (XT.ushr x 18 &&& 255))] [(.ref s)]
    exact W.retA (t := (.object "java/lang/String")) d1_48 rfl rfl rfl rfl (by decide) (by decide) ⟨s, b, E, rfl, rfl, by rw [ht]; exact hR, hU⟩
  · refine W.ifY d1_35 (XT.i0_ne_t g0) (by decide) (pc' := 49) rfl ?_
    refine W.iloadN d1_49 (pc' := 50) rfl rfl ?_
    refine W.iconst (1 : Int32) d1_50 (pc' := 51) rfl rfl ?_
    by_cases g1 : (x &&& (3 : Int32)) = (1 : Int32)
    · refine W.icmpN d1_51 (XT.ii_ne_f g1) (pc' := 54) rfl ?_
      have ht : own_txt x = [own_b x 2] := by simp [own_txt, g1]
      refine W.new [("java/lang/String", "value", "[B", .null), ("java/lang/String", "coder", "B", (.int (0 : Int32)))] d1_54 (wd hw 7 rfl) (wd hw 8 rfl) (wd hw 9 rfl) ⟨⟨Or.inr (wd hw 23 rfl), (.array .byte), by decide, rfl⟩, ⟨Or.inr (wd hw 24 rfl), .byte, by decide, rfl⟩, trivial⟩ (by decide) (by decide) (by decide) (pc' := 57) rfl ?_
      intro s
      show W _ _ _ ("com/example/lost_update_guard/lostupdateguard/TableEqualsPinLaw", "str", method_3_code, 5, (some (.object "java/lang/String")), u) _ _ 1 4 ((s, (own_Str Z .null (.int (0 : Int32)))) :: F) 57 #[.val (.int x), .val (.int (x &&& (3 : Int32))), .val (.int (XT.ushr x 2 &&& 255)), .val (.int (XT.ushr x 10 &&& 255)), .val (.int (XT.ushr x 18 &&& 255))] [(.ref s)]
      refine W.dup d1_57 (pc' := 58) rfl rfl ?_
      refine W.iconst (1 : Int32) d1_58 (pc' := 59) rfl rfl ?_
      refine W.newI 1 1 d1_59 (wd hw 10 rfl) rfl (by decide) rfl (by decide) (by decide) (by decide) (by decide) (pc' := 61) rfl ?_
      intro kc
      show W _ _ _ ("com/example/lost_update_guard/lostupdateguard/TableEqualsPinLaw", "str", method_3_code, 5, (some (.object "java/lang/String")), u) _ _ 2 5 ((kc, (IA Z .char [0])) :: (s, (own_Str Z .null (.int (0 : Int32)))) :: F) 61 #[.val (.int x), .val (.int (x &&& (3 : Int32))), .val (.int (XT.ushr x 2 &&& 255)), .val (.int (XT.ushr x 10 &&& 255)), .val (.int (XT.ushr x 18 &&& 255))] [(.ref kc), (.ref s), (.ref s)]
      refine W.dup d1_61 (pc' := 62) rfl rfl ?_
      refine W.iconst (0 : Int32) d1_62 (pc' := 63) rfl rfl ?_
      refine W.iloadN d1_63 (pc' := 64) rfl rfl ?_
      refine W.castore ((kc, (IA Z .char [(nar .char (XT.ushr x 2 &&& 255))])) :: (s, (own_Str Z .null (.int (0 : Int32)))) :: F) 0 0 d1_64 rfl (by decide) rfl (Nat.le_of_ble_eq_true rfl) rfl (pc' := 65) rfl ?_
      refine W.pulls ((s, (own_Str Z .null (.int (0 : Int32)))) :: (kc, (IA Z .char [(nar .char (XT.ushr x 2 &&& 255))])) :: F) [1] rfl ?_
      refine W.callI (mS1_1 l Z n0 a0 hw u cs hcs hst F s kc (own_c x 2) (own_c255 x 2)) d1_65 rfl (wd hw 11 rfl) (wd hw 12 rfl) (wd hw 9 rfl) (wd hw 13 rfl) (by decide) pd4 rfl rfl (Nat.le_of_ble_eq_true rfl) (Nat.le_of_ble_eq_true rfl) (Nat.le_of_ble_eq_true rfl) (Nat.le_of_ble_eq_true rfl) rfl (pc' := 68) rfl ?_
      rintro _ _ _ ⟨rfl, rfl, kb, rfl⟩
      show W _ _ _ ("com/example/lost_update_guard/lostupdateguard/TableEqualsPinLaw", "str", method_3_code, 5, (some (.object "java/lang/String")), u) _ _ 3 6 ((s, (own_Str Z (.ref kb) (.int (0 : Int32)))) :: (kc, (IA Z .char [(own_c x 2)])) :: (kb, (IA Z .byte [(own_b x 2)])) :: F) 68 #[.val (.int x), .val (.int (x &&& (3 : Int32))), .val (.int (XT.ushr x 2 &&& 255)), .val (.int (XT.ushr x 10 &&& 255)), .val (.int (XT.ushr x 18 &&& 255))] [(.ref s)]
      exact W.retA (t := (.object "java/lang/String")) d1_68 rfl rfl rfl rfl (by decide) (by decide) ⟨s, kb, [(kc, (IA Z .char [(own_c x 2)])), (kb, (IA Z .byte [(own_b x 2)]))], rfl, rfl, Or.inr (by rw [ht]; simp), h.mono (fun z hz => List.mem_append_right _ hz)⟩
    · refine W.icmpY d1_51 (XT.ii_ne_t g1) (by decide) (pc' := 69) rfl ?_
      refine W.iloadN d1_69 (pc' := 70) rfl rfl ?_
      refine W.iconst (2 : Int32) d1_70 (pc' := 71) rfl rfl ?_
      by_cases g2 : (x &&& (3 : Int32)) = (2 : Int32)
      · refine W.icmpN d1_71 (XT.ii_ne_f g2) (pc' := 74) rfl ?_
        have ht : own_txt x = [own_b x 2, own_b x 10] := by simp [own_txt, g2]
        refine W.new [("java/lang/String", "value", "[B", .null), ("java/lang/String", "coder", "B", (.int (0 : Int32)))] d1_74 (wd hw 7 rfl) (wd hw 8 rfl) (wd hw 9 rfl) ⟨⟨Or.inr (wd hw 23 rfl), (.array .byte), by decide, rfl⟩, ⟨Or.inr (wd hw 24 rfl), .byte, by decide, rfl⟩, trivial⟩ (by decide) (by decide) (by decide) (pc' := 77) rfl ?_
        intro s
        show W _ _ _ ("com/example/lost_update_guard/lostupdateguard/TableEqualsPinLaw", "str", method_3_code, 5, (some (.object "java/lang/String")), u) _ _ 1 4 ((s, (own_Str Z .null (.int (0 : Int32)))) :: F) 77 #[.val (.int x), .val (.int (x &&& (3 : Int32))), .val (.int (XT.ushr x 2 &&& 255)), .val (.int (XT.ushr x 10 &&& 255)), .val (.int (XT.ushr x 18 &&& 255))] [(.ref s)]
        refine W.dup d1_77 (pc' := 78) rfl rfl ?_
        refine W.iconst (2 : Int32) d1_78 (pc' := 79) rfl rfl ?_
        refine W.newI 2 2 d1_79 (wd hw 10 rfl) rfl (by decide) rfl (by decide) (by decide) (by decide) (by decide) (pc' := 81) rfl ?_
        intro kc
        show W _ _ _ ("com/example/lost_update_guard/lostupdateguard/TableEqualsPinLaw", "str", method_3_code, 5, (some (.object "java/lang/String")), u) _ _ 2 6 ((kc, (IA Z .char [0, 0])) :: (s, (own_Str Z .null (.int (0 : Int32)))) :: F) 81 #[.val (.int x), .val (.int (x &&& (3 : Int32))), .val (.int (XT.ushr x 2 &&& 255)), .val (.int (XT.ushr x 10 &&& 255)), .val (.int (XT.ushr x 18 &&& 255))] [(.ref kc), (.ref s), (.ref s)]
        refine W.dup d1_81 (pc' := 82) rfl rfl ?_
        refine W.iconst (0 : Int32) d1_82 (pc' := 83) rfl rfl ?_
        refine W.iloadN d1_83 (pc' := 84) rfl rfl ?_
        refine W.castore ((kc, (IA Z .char [(nar .char (XT.ushr x 2 &&& 255)), 0])) :: (s, (own_Str Z .null (.int (0 : Int32)))) :: F) 0 0 d1_84 rfl (by decide) rfl (Nat.le_of_ble_eq_true rfl) rfl (pc' := 85) rfl ?_
        refine W.dup d1_85 (pc' := 86) rfl rfl ?_
        refine W.iconst (1 : Int32) d1_86 (pc' := 87) rfl rfl ?_
        refine W.iloadN d1_87 (pc' := 88) rfl rfl ?_
        refine W.castore ((kc, (IA Z .char [(nar .char (XT.ushr x 2 &&& 255)), (nar .char (XT.ushr x 10 &&& 255))])) :: (s, (own_Str Z .null (.int (0 : Int32)))) :: F) 0 1 d1_88 rfl (by decide) rfl (Nat.le_of_ble_eq_true rfl) rfl (pc' := 89) rfl ?_
        refine W.pulls ((s, (own_Str Z .null (.int (0 : Int32)))) :: (kc, (IA Z .char [(nar .char (XT.ushr x 2 &&& 255)), (nar .char (XT.ushr x 10 &&& 255))])) :: F) [1] rfl ?_
        refine W.callI (mS1_2 l Z n0 a0 hw u cs hcs hst F s kc (own_c x 2) (own_c x 10) (own_c255 x 2) (own_c255 x 10)) d1_89 rfl (wd hw 11 rfl) (wd hw 12 rfl) (wd hw 9 rfl) (wd hw 13 rfl) (by decide) pd4 rfl rfl (Nat.le_of_ble_eq_true rfl) (Nat.le_of_ble_eq_true rfl) (Nat.le_of_ble_eq_true rfl) (Nat.le_of_ble_eq_true rfl) rfl (pc' := 92) rfl ?_
        rintro _ _ _ ⟨rfl, rfl, kb, rfl⟩
        show W _ _ _ ("com/example/lost_update_guard/lostupdateguard/TableEqualsPinLaw", "str", method_3_code, 5, (some (.object "java/lang/String")), u) _ _ 3 8 ((s, (own_Str Z (.ref kb) (.int (0 : Int32)))) :: (kc, (IA Z .char [(own_c x 2), (own_c x 10)])) :: (kb, (IA Z .byte [(own_b x 2), (own_b x 10)])) :: F) 92 #[.val (.int x), .val (.int (x &&& (3 : Int32))), .val (.int (XT.ushr x 2 &&& 255)), .val (.int (XT.ushr x 10 &&& 255)), .val (.int (XT.ushr x 18 &&& 255))] [(.ref s)]
        exact W.retA (t := (.object "java/lang/String")) d1_92 rfl rfl rfl rfl (by decide) (by decide) ⟨s, kb, [(kc, (IA Z .char [(own_c x 2), (own_c x 10)])), (kb, (IA Z .byte [(own_b x 2), (own_b x 10)]))], rfl, rfl, Or.inr (by rw [ht]; simp), h.mono (fun z hz => List.mem_append_right _ hz)⟩
      · refine W.icmpY d1_71 (XT.ii_ne_t g2) (by decide) (pc' := 93) rfl ?_
        have ht : own_txt x = [own_b x 2, own_b x 10, own_b x 18] := by simp [own_txt, g0, g1, g2]
        refine W.new [("java/lang/String", "value", "[B", .null), ("java/lang/String", "coder", "B", (.int (0 : Int32)))] d1_93 (wd hw 7 rfl) (wd hw 8 rfl) (wd hw 9 rfl) ⟨⟨Or.inr (wd hw 23 rfl), (.array .byte), by decide, rfl⟩, ⟨Or.inr (wd hw 24 rfl), .byte, by decide, rfl⟩, trivial⟩ (by decide) (by decide) (by decide) (pc' := 96) rfl ?_
        intro s
        show W _ _ _ ("com/example/lost_update_guard/lostupdateguard/TableEqualsPinLaw", "str", method_3_code, 5, (some (.object "java/lang/String")), u) _ _ 1 4 ((s, (own_Str Z .null (.int (0 : Int32)))) :: F) 96 #[.val (.int x), .val (.int (x &&& (3 : Int32))), .val (.int (XT.ushr x 2 &&& 255)), .val (.int (XT.ushr x 10 &&& 255)), .val (.int (XT.ushr x 18 &&& 255))] [(.ref s)]
        refine W.dup d1_96 (pc' := 97) rfl rfl ?_
        refine W.iconst (3 : Int32) d1_97 (pc' := 98) rfl rfl ?_
        refine W.newI 3 3 d1_98 (wd hw 10 rfl) rfl (by decide) rfl (by decide) (by decide) (by decide) (by decide) (pc' := 100) rfl ?_
        intro kc
        show W _ _ _ ("com/example/lost_update_guard/lostupdateguard/TableEqualsPinLaw", "str", method_3_code, 5, (some (.object "java/lang/String")), u) _ _ 2 7 ((kc, (IA Z .char [0, 0, 0])) :: (s, (own_Str Z .null (.int (0 : Int32)))) :: F) 100 #[.val (.int x), .val (.int (x &&& (3 : Int32))), .val (.int (XT.ushr x 2 &&& 255)), .val (.int (XT.ushr x 10 &&& 255)), .val (.int (XT.ushr x 18 &&& 255))] [(.ref kc), (.ref s), (.ref s)]
        refine W.dup d1_100 (pc' := 101) rfl rfl ?_
        refine W.iconst (0 : Int32) d1_101 (pc' := 102) rfl rfl ?_
        refine W.iloadN d1_102 (pc' := 103) rfl rfl ?_
        refine W.castore ((kc, (IA Z .char [(nar .char (XT.ushr x 2 &&& 255)), 0, 0])) :: (s, (own_Str Z .null (.int (0 : Int32)))) :: F) 0 0 d1_103 rfl (by decide) rfl (Nat.le_of_ble_eq_true rfl) rfl (pc' := 104) rfl ?_
        refine W.dup d1_104 (pc' := 105) rfl rfl ?_
        refine W.iconst (1 : Int32) d1_105 (pc' := 106) rfl rfl ?_
        refine W.iloadN d1_106 (pc' := 107) rfl rfl ?_
        refine W.castore ((kc, (IA Z .char [(nar .char (XT.ushr x 2 &&& 255)), (nar .char (XT.ushr x 10 &&& 255)), 0])) :: (s, (own_Str Z .null (.int (0 : Int32)))) :: F) 0 1 d1_107 rfl (by decide) rfl (Nat.le_of_ble_eq_true rfl) rfl (pc' := 108) rfl ?_
        refine W.dup d1_108 (pc' := 109) rfl rfl ?_
        refine W.iconst (2 : Int32) d1_109 (pc' := 110) rfl rfl ?_
        refine W.iload d1_110 (pc' := 112) rfl rfl ?_
        refine W.castore ((kc, (IA Z .char [(nar .char (XT.ushr x 2 &&& 255)), (nar .char (XT.ushr x 10 &&& 255)), (nar .char (XT.ushr x 18 &&& 255))])) :: (s, (own_Str Z .null (.int (0 : Int32)))) :: F) 0 2 d1_112 rfl (by decide) rfl (Nat.le_of_ble_eq_true rfl) rfl (pc' := 113) rfl ?_
        refine W.pulls ((s, (own_Str Z .null (.int (0 : Int32)))) :: (kc, (IA Z .char [(nar .char (XT.ushr x 2 &&& 255)), (nar .char (XT.ushr x 10 &&& 255)), (nar .char (XT.ushr x 18 &&& 255))])) :: F) [1] rfl ?_
        refine W.callI (mS1_3 l Z n0 a0 hw u cs hcs hst F s kc (own_c x 2) (own_c x 10) (own_c x 18) (own_c255 x 2) (own_c255 x 10) (own_c255 x 18)) d1_113 rfl (wd hw 11 rfl) (wd hw 12 rfl) (wd hw 9 rfl) (wd hw 13 rfl) (by decide) pd4 rfl rfl (Nat.le_of_ble_eq_true rfl) (Nat.le_of_ble_eq_true rfl) (Nat.le_of_ble_eq_true rfl) (Nat.le_of_ble_eq_true rfl) rfl (pc' := 116) rfl ?_
        rintro _ _ _ ⟨rfl, rfl, kb, rfl⟩
        show W _ _ _ ("com/example/lost_update_guard/lostupdateguard/TableEqualsPinLaw", "str", method_3_code, 5, (some (.object "java/lang/String")), u) _ _ 3 10 ((s, (own_Str Z (.ref kb) (.int (0 : Int32)))) :: (kc, (IA Z .char [(own_c x 2), (own_c x 10), (own_c x 18)])) :: (kb, (IA Z .byte [(own_b x 2), (own_b x 10), (own_b x 18)])) :: F) 116 #[.val (.int x), .val (.int (x &&& (3 : Int32))), .val (.int (XT.ushr x 2 &&& 255)), .val (.int (XT.ushr x 10 &&& 255)), .val (.int (XT.ushr x 18 &&& 255))] [(.ref s)]
        exact W.retA (t := (.object "java/lang/String")) d1_116 rfl rfl rfl rfl (by decide) (by decide) ⟨s, kb, [(kc, (IA Z .char [(own_c x 2), (own_c x 10), (own_c x 18)])), (kb, (IA Z .byte [(own_b x 2), (own_b x 10), (own_b x 18)]))], rfl, rfl, Or.inr (by rw [ht]; simp), h.mono (fun z hz => List.mem_append_right _ hz)⟩
theorem pn_mRnn : plainFor (⟨"java/util/Objects", "requireNonNull", "(Ljava/lang/Object;Ljava/lang/String;)Ljava/lang/Object;"⟩ : MethodName) = true := by first | (refine plainFor_of_name ?_; simp [plainName, overriddenIn]; done) | (refine plainFor_of_name ?_; decide +kernel) | decide +kernel
set_option maxRecDepth 65536 in
set_option maxHeartbeats 40000000 in
theorem mRnn (l : Launch) (Z : State) (n0 : Nat) (a0 : Array Value) (hw : ∀ d ∈ tables_1, d.before a0 Z = true) (u : Lst) (σ : Asn) (a z : Addr) : Sp l Z n0 u (⟨"java/util/Objects", "requireNonNull", "(Ljava/lang/Object;Ljava/lang/String;)Ljava/lang/Object;"⟩ : MethodName) jdk_31_method_11_code 2 (some (.object "java/lang/Object")) ({ frames := 0, cells := 0, slots := 0, locals := 0 } : Room) [(.ref a), (.ref z)] (σ) (Ret u (some (.ref a)) σ) := by
  refine Sp.of (ls := #[.val (.ref a), .val (.ref z)]) pn_mRnn (fun m => by first | (simp [entryFrame, mkF, argsToLocals, Value.category]; done) | rfl) ?_
  show W _ _ _ ("java/util/Objects", "requireNonNull", jdk_31_method_11_code, 2, (some (.object "java/lang/Object")), u) _ _ 0 0 (σ) 0 #[.val (.ref a), .val (.ref z)] []
  refine W.aloadN d9_0 (pc' := 1) rfl rfl rfl ?_
  refine W.nonnullY d9_1  (by decide) (pc' := 13) rfl ?_
  refine W.aloadN d9_13 (pc' := 14) rfl rfl rfl ?_
  exact W.retA (t := (.object "java/lang/Object")) d9_14 rfl rfl rfl rfl (by decide) (by decide) ⟨rfl, rfl, rfl⟩
theorem pn_mTI : plainFor (⟨"com/example/lost_update_guard/lostupdateguard/Cascades$Table", "<init>", "(Ljava/lang/String;Ljava/lang/String;)V"⟩ : MethodName) = true := by first | (refine plainFor_of_name ?_; simp [plainName, overriddenIn]; done) | (refine plainFor_of_name ?_; decide +kernel) | decide +kernel
set_option maxRecDepth 65536 in
set_option maxHeartbeats 40000000 in
theorem mTI (l : Launch) (Z : State) (n0 : Nat) (a0 : Array Value) (hw : ∀ d ∈ tables_1, d.before a0 Z = true) (u : Lst) (F : Asn) (t q1 q2 b1 b2 : Addr) (h1 : (q1, (own_Str Z (.ref b1) (.int (0 : Int32)))) ∈ F) (h2 : (q2, (own_Str Z (.ref b2) (.int (0 : Int32)))) ∈ F) : Sp l Z n0 u (⟨"com/example/lost_update_guard/lostupdateguard/Cascades$Table", "<init>", "(Ljava/lang/String;Ljava/lang/String;)V"⟩ : MethodName) prog_11_method_1_code 3 none ({ frames := 1, cells := 4, slots := 48, locals := 14 } : Room) [(.ref t), (.ref q1), (.ref q2)] ((t, (own_Tab Z .null .null)) :: F) (Ret u none ((t, (own_Tab Z (.ref q1) (.ref q2))) :: F)) := by
  refine Sp.of (ls := #[.val (.ref t), .val (.ref q1), .val (.ref q2)]) pn_mTI (fun m => by first | (simp [entryFrame, mkF, argsToLocals, Value.category]; done) | rfl) ?_
  show W _ _ _ ("com/example/lost_update_guard/lostupdateguard/Cascades$Table", "<init>", prog_11_method_1_code, 3, none, u) _ _ 0 0 ((t, (own_Tab Z .null .null)) :: F) 0 #[.val (.ref t), .val (.ref q1), .val (.ref q2)] []
  refine W.aloadN d8_0 (pc' := 1) rfl rfl rfl ?_
  refine W.initO d8_1 (wd hw 43 rfl) (wd hw 19 rfl) (wd hw 20 rfl) rfl (Nat.le_of_ble_eq_true rfl) (Nat.le_of_ble_eq_true rfl) (pc' := 4) rfl ?_
  refine W.aloadN d8_4 (pc' := 5) rfl rfl rfl ?_
  refine W.aloadN d8_5 (pc' := 6) rfl rfl rfl ?_
  refine W.ldcK 24 (by decide) d8_6 (wd hw 44 rfl) (own_wS hw) (by decide) (by decide) (by decide) (by decide) (pc' := 8) rfl ?_
  intro z1
  show W _ _ _ ("com/example/lost_update_guard/lostupdateguard/Cascades$Table", "<init>", prog_11_method_1_code, 3, none, u) _ _ 2 28 ((t, (own_Tab Z .null .null)) :: F) 8 #[.val (.ref t), .val (.ref q1), .val (.ref q2)] [(.ref z1), (.ref q1), (.ref t)]
  refine W.callS (mRnn l Z n0 a0 hw u ((t, (own_Tab Z .null .null)) :: F) q1 z1) d8_8 (wd hw 45 rfl) (wd hw 46 rfl) (wd hw 47 rfl) (wd hw 48 rfl) (by decide) pd5 rfl rfl (Nat.le_of_ble_eq_true rfl) (Nat.le_of_ble_eq_true rfl) (Nat.le_of_ble_eq_true rfl) (Nat.le_of_ble_eq_true rfl) rfl (pc' := 11) rfl ?_
  rintro w9 v9 s9 ⟨rfl, rfl, e9⟩
  obtain rfl := e9.symm
  show W _ _ _ ("com/example/lost_update_guard/lostupdateguard/Cascades$Table", "<init>", prog_11_method_1_code, 3, none, u) _ _ 2 28 ((t, (own_Tab Z .null .null)) :: F) 11 #[.val (.ref t), .val (.ref q1), .val (.ref q2)] [(.ref q1), (.ref t)]
  refine W.castM (List.mem_cons_of_mem _ h1) d8_11 (wd hw 49 rfl) (pc' := 14) rfl ?_
  refine W.putF ((t, (own_Tab Z (.ref q1) .null)) :: F) 0 0 d8_14 (host := "") (Or.inl (wd hw 50 rfl)) Via.refl (Or.inr ⟨(wd hw 51 rfl), rfl, rfl⟩) (wd hw 1 rfl) (ty := (.object "java/lang/String")) (by decide) rfl rfl rfl rfl rfl (pc' := 17) rfl ?_
  refine W.aloadN d8_17 (pc' := 18) rfl rfl rfl ?_
  refine W.aloadN d8_18 (pc' := 19) rfl rfl rfl ?_
  refine W.ldcK 16 (by decide) d8_19 (wd hw 52 rfl) (own_wS hw) (by decide) (by decide) (by decide) (by decide) (pc' := 21) rfl ?_
  intro z2
  show W _ _ _ ("com/example/lost_update_guard/lostupdateguard/Cascades$Table", "<init>", prog_11_method_1_code, 3, none, u) _ _ 4 48 ((t, (own_Tab Z (.ref q1) .null)) :: F) 21 #[.val (.ref t), .val (.ref q1), .val (.ref q2)] [(.ref z2), (.ref q2), (.ref t)]
  refine W.callS (mRnn l Z n0 a0 hw u ((t, (own_Tab Z (.ref q1) .null)) :: F) q2 z2) d8_21 (wd hw 45 rfl) (wd hw 46 rfl) (wd hw 47 rfl) (wd hw 48 rfl) (by decide) pd5 rfl rfl (Nat.le_of_ble_eq_true rfl) (Nat.le_of_ble_eq_true rfl) (Nat.le_of_ble_eq_true rfl) (Nat.le_of_ble_eq_true rfl) rfl (pc' := 24) rfl ?_
  rintro w9 v9 s9 ⟨rfl, rfl, e9⟩
  obtain rfl := e9.symm
  show W _ _ _ ("com/example/lost_update_guard/lostupdateguard/Cascades$Table", "<init>", prog_11_method_1_code, 3, none, u) _ _ 4 48 ((t, (own_Tab Z (.ref q1) .null)) :: F) 24 #[.val (.ref t), .val (.ref q1), .val (.ref q2)] [(.ref q2), (.ref t)]
  refine W.castM (List.mem_cons_of_mem _ h2) d8_24 (wd hw 49 rfl) (pc' := 27) rfl ?_
  refine W.putF ((t, (own_Tab Z (.ref q1) (.ref q2))) :: F) 0 1 d8_27 (host := "") (Or.inl (wd hw 53 rfl)) Via.refl (Or.inr ⟨(wd hw 54 rfl), rfl, rfl⟩) (wd hw 1 rfl) (ty := (.object "java/lang/String")) (by decide) rfl rfl rfl rfl rfl (pc' := 30) rfl ?_
  exact W.retV d8_30 rfl (by decide) (by decide) ⟨rfl, rfl, rfl⟩
theorem pn_mL_0 : plainFor (⟨"java/lang/StringLatin1", "equals", "([B[B)Z"⟩ : MethodName) = true := by first | (refine plainFor_of_name ?_; simp [plainName, overriddenIn]; done) | (refine plainFor_of_name ?_; decide +kernel) | decide +kernel
set_option maxRecDepth 65536 in
set_option maxHeartbeats 40000000 in
theorem mL_0 (l : Launch) (Z : State) (n0 : Nat) (a0 : Array Value) (hw : ∀ d ∈ tables_1, d.before a0 Z = true) (u : Lst) (σ : Asn) (b1 b2 : Addr)  (h1 : RdA Z σ b1 ([] : List Int32)) (h2 : RdA Z σ b2 ([] : List Int32)) : Sp l Z n0 u (⟨"java/lang/StringLatin1", "equals", "([B[B)Z"⟩ : MethodName) jdk_43_method_13_code 3 (some .boolean) ({ frames := 0, cells := 0, slots := 0, locals := 0 } : Room) [(.ref b1), (.ref b2)] (σ) (Ret u (some (.int (if ([] : List Int32) = ([] : List Int32) then 1 else 0))) σ) := by
  refine Sp.of (ls := #[.val (.ref b1), .val (.ref b2), .unset]) pn_mL_0 (fun m => by first | (simp [entryFrame, mkF, argsToLocals, Value.category]; done) | rfl) ?_
  show W _ _ _ ("java/lang/StringLatin1", "equals", jdk_43_method_13_code, 3, (some .boolean), u) _ _ 0 0 (σ) 0 #[.val (.ref b1), .val (.ref b2), .unset] []
  refine W.aloadN d13_0 (pc' := 1) rfl rfl rfl ?_
  refine W.lenM (0 : Int32) h1 d13_1 rfl (pc' := 2) rfl ?_
  refine W.aloadN d13_2 (pc' := 3) rfl rfl rfl ?_
  refine W.lenM (0 : Int32) h2 d13_3 rfl (pc' := 4) rfl ?_
  refine W.icmpN d13_4 (by decide) (pc' := 7) rfl ?_
  refine W.iconst (0 : Int32) d13_7 (pc' := 8) rfl rfl ?_
  refine W.istoreN #[.val (.ref b1), .val (.ref b2), .val (.int (0 : Int32))] d13_8 (pc' := 9) rfl rfl ?_
  refine W.iloadN d13_9 (pc' := 10) rfl rfl ?_
  refine W.aloadN d13_10 (pc' := 11) rfl rfl rfl ?_
  refine W.lenM (0 : Int32) h1 d13_11 rfl (pc' := 12) rfl ?_
  refine W.icmpY d13_12 (by decide) (by decide) (pc' := 32) rfl ?_
  refine W.iconst (1 : Int32) d13_32 (pc' := 33) rfl rfl ?_
  exact W.retN (t := .boolean) 1 d13_33 rfl (by simp) (by decide) (by decide) (by decide) ⟨rfl, by simp [], rfl⟩
theorem pn_mL_1 : plainFor (⟨"java/lang/StringLatin1", "equals", "([B[B)Z"⟩ : MethodName) = true := by first | (refine plainFor_of_name ?_; simp [plainName, overriddenIn]; done) | (refine plainFor_of_name ?_; decide +kernel) | decide +kernel
set_option maxRecDepth 65536 in
set_option maxHeartbeats 40000000 in
theorem mL_1 (l : Launch) (Z : State) (n0 : Nat) (a0 : Array Value) (hw : ∀ d ∈ tables_1, d.before a0 Z = true) (u : Lst) (σ : Asn) (b1 b2 : Addr) (x0 y0 : Int32) (h1 : RdA Z σ b1 ([x0] : List Int32)) (h2 : RdA Z σ b2 ([y0] : List Int32)) : Sp l Z n0 u (⟨"java/lang/StringLatin1", "equals", "([B[B)Z"⟩ : MethodName) jdk_43_method_13_code 3 (some .boolean) ({ frames := 0, cells := 0, slots := 0, locals := 0 } : Room) [(.ref b1), (.ref b2)] (σ) (Ret u (some (.int (if ([x0] : List Int32) = ([y0] : List Int32) then 1 else 0))) σ) := by
  refine Sp.of (ls := #[.val (.ref b1), .val (.ref b2), .unset]) pn_mL_1 (fun m => by first | (simp [entryFrame, mkF, argsToLocals, Value.category]; done) | rfl) ?_
  show W _ _ _ ("java/lang/StringLatin1", "equals", jdk_43_method_13_code, 3, (some .boolean), u) _ _ 0 0 (σ) 0 #[.val (.ref b1), .val (.ref b2), .unset] []
  refine W.aloadN d13_0 (pc' := 1) rfl rfl rfl ?_
  refine W.lenM (1 : Int32) h1 d13_1 rfl (pc' := 2) rfl ?_
  refine W.aloadN d13_2 (pc' := 3) rfl rfl rfl ?_
  refine W.lenM (1 : Int32) h2 d13_3 rfl (pc' := 4) rfl ?_
  refine W.icmpN d13_4 (by decide) (pc' := 7) rfl ?_
  refine W.iconst (0 : Int32) d13_7 (pc' := 8) rfl rfl ?_
  refine W.istoreN #[.val (.ref b1), .val (.ref b2), .val (.int (0 : Int32))] d13_8 (pc' := 9) rfl rfl ?_
  refine W.iloadN d13_9 (pc' := 10) rfl rfl ?_
  refine W.aloadN d13_10 (pc' := 11) rfl rfl rfl ?_
  refine W.lenM (1 : Int32) h1 d13_11 rfl (pc' := 12) rfl ?_
  refine W.icmpN d13_12 (by decide) (pc' := 15) rfl ?_
  refine W.aloadN d13_15 (pc' := 16) rfl rfl rfl ?_
  refine W.iloadN d13_16 (pc' := 17) rfl rfl ?_
  refine W.baloadM 0 h1 d13_17 (by decide) rfl rfl (pc' := 18) rfl ?_
  refine W.aloadN d13_18 (pc' := 19) rfl rfl rfl ?_
  refine W.iloadN d13_19 (pc' := 20) rfl rfl ?_
  refine W.baloadM 0 h2 d13_20 (by decide) rfl rfl (pc' := 21) rfl ?_
  by_cases g0 : x0 = y0
  · refine W.icmpY d13_21 (XT.ii_eq_t g0) (by decide) (pc' := 26) rfl ?_
    refine W.iinc #[.val (.ref b1), .val (.ref b2), .val (.int (1 : Int32))] (1 : Int32) (1 : Int32) d13_26 (pc' := 29) rfl rfl rfl (by decide) rfl ?_
    refine W.goto d13_29 (pc' := 9) (by decide) rfl ?_
    refine W.iloadN d13_9 (pc' := 10) rfl rfl ?_
    refine W.aloadN d13_10 (pc' := 11) rfl rfl rfl ?_
    refine W.lenM (1 : Int32) h1 d13_11 rfl (pc' := 12) rfl ?_
    refine W.icmpY d13_12 (by decide) (by decide) (pc' := 32) rfl ?_
    refine W.iconst (1 : Int32) d13_32 (pc' := 33) rfl rfl ?_
    exact W.retN (t := .boolean) 1 d13_33 rfl (by simp) (by decide) (by decide) (by decide) ⟨rfl, by simp [g0], rfl⟩
  · refine W.icmpN d13_21 (XT.ii_eq_f g0) (pc' := 24) rfl ?_
    refine W.iconst (0 : Int32) d13_24 (pc' := 25) rfl rfl ?_
    exact W.retN (t := .boolean) 0 d13_25 rfl (by simp) (by decide) (by decide) (by decide) ⟨rfl, by simp [g0], rfl⟩
theorem pn_mL_2 : plainFor (⟨"java/lang/StringLatin1", "equals", "([B[B)Z"⟩ : MethodName) = true := by first | (refine plainFor_of_name ?_; simp [plainName, overriddenIn]; done) | (refine plainFor_of_name ?_; decide +kernel) | decide +kernel
set_option maxRecDepth 65536 in
set_option maxHeartbeats 40000000 in
theorem mL_2 (l : Launch) (Z : State) (n0 : Nat) (a0 : Array Value) (hw : ∀ d ∈ tables_1, d.before a0 Z = true) (u : Lst) (σ : Asn) (b1 b2 : Addr) (x0 x1 y0 y1 : Int32) (h1 : RdA Z σ b1 ([x0, x1] : List Int32)) (h2 : RdA Z σ b2 ([y0, y1] : List Int32)) : Sp l Z n0 u (⟨"java/lang/StringLatin1", "equals", "([B[B)Z"⟩ : MethodName) jdk_43_method_13_code 3 (some .boolean) ({ frames := 0, cells := 0, slots := 0, locals := 0 } : Room) [(.ref b1), (.ref b2)] (σ) (Ret u (some (.int (if ([x0, x1] : List Int32) = ([y0, y1] : List Int32) then 1 else 0))) σ) := by
  refine Sp.of (ls := #[.val (.ref b1), .val (.ref b2), .unset]) pn_mL_2 (fun m => by first | (simp [entryFrame, mkF, argsToLocals, Value.category]; done) | rfl) ?_
  show W _ _ _ ("java/lang/StringLatin1", "equals", jdk_43_method_13_code, 3, (some .boolean), u) _ _ 0 0 (σ) 0 #[.val (.ref b1), .val (.ref b2), .unset] []
  refine W.aloadN d13_0 (pc' := 1) rfl rfl rfl ?_
  refine W.lenM (2 : Int32) h1 d13_1 rfl (pc' := 2) rfl ?_
  refine W.aloadN d13_2 (pc' := 3) rfl rfl rfl ?_
  refine W.lenM (2 : Int32) h2 d13_3 rfl (pc' := 4) rfl ?_
  refine W.icmpN d13_4 (by decide) (pc' := 7) rfl ?_
  refine W.iconst (0 : Int32) d13_7 (pc' := 8) rfl rfl ?_
  refine W.istoreN #[.val (.ref b1), .val (.ref b2), .val (.int (0 : Int32))] d13_8 (pc' := 9) rfl rfl ?_
  refine W.iloadN d13_9 (pc' := 10) rfl rfl ?_
  refine W.aloadN d13_10 (pc' := 11) rfl rfl rfl ?_
  refine W.lenM (2 : Int32) h1 d13_11 rfl (pc' := 12) rfl ?_
  refine W.icmpN d13_12 (by decide) (pc' := 15) rfl ?_
  refine W.aloadN d13_15 (pc' := 16) rfl rfl rfl ?_
  refine W.iloadN d13_16 (pc' := 17) rfl rfl ?_
  refine W.baloadM 0 h1 d13_17 (by decide) rfl rfl (pc' := 18) rfl ?_
  refine W.aloadN d13_18 (pc' := 19) rfl rfl rfl ?_
  refine W.iloadN d13_19 (pc' := 20) rfl rfl ?_
  refine W.baloadM 0 h2 d13_20 (by decide) rfl rfl (pc' := 21) rfl ?_
  by_cases g0 : x0 = y0
  · refine W.icmpY d13_21 (XT.ii_eq_t g0) (by decide) (pc' := 26) rfl ?_
    refine W.iinc #[.val (.ref b1), .val (.ref b2), .val (.int (1 : Int32))] (1 : Int32) (1 : Int32) d13_26 (pc' := 29) rfl rfl rfl (by decide) rfl ?_
    refine W.goto d13_29 (pc' := 9) (by decide) rfl ?_
    refine W.iloadN d13_9 (pc' := 10) rfl rfl ?_
    refine W.aloadN d13_10 (pc' := 11) rfl rfl rfl ?_
    refine W.lenM (2 : Int32) h1 d13_11 rfl (pc' := 12) rfl ?_
    refine W.icmpN d13_12 (by decide) (pc' := 15) rfl ?_
    refine W.aloadN d13_15 (pc' := 16) rfl rfl rfl ?_
    refine W.iloadN d13_16 (pc' := 17) rfl rfl ?_
    refine W.baloadM 1 h1 d13_17 (by decide) rfl rfl (pc' := 18) rfl ?_
    refine W.aloadN d13_18 (pc' := 19) rfl rfl rfl ?_
    refine W.iloadN d13_19 (pc' := 20) rfl rfl ?_
    refine W.baloadM 1 h2 d13_20 (by decide) rfl rfl (pc' := 21) rfl ?_
    by_cases g1 : x1 = y1
    · refine W.icmpY d13_21 (XT.ii_eq_t g1) (by decide) (pc' := 26) rfl ?_
      refine W.iinc #[.val (.ref b1), .val (.ref b2), .val (.int (2 : Int32))] (1 : Int32) (2 : Int32) d13_26 (pc' := 29) rfl rfl rfl (by decide) rfl ?_
      refine W.goto d13_29 (pc' := 9) (by decide) rfl ?_
      refine W.iloadN d13_9 (pc' := 10) rfl rfl ?_
      refine W.aloadN d13_10 (pc' := 11) rfl rfl rfl ?_
      refine W.lenM (2 : Int32) h1 d13_11 rfl (pc' := 12) rfl ?_
      refine W.icmpY d13_12 (by decide) (by decide) (pc' := 32) rfl ?_
      refine W.iconst (1 : Int32) d13_32 (pc' := 33) rfl rfl ?_
      exact W.retN (t := .boolean) 1 d13_33 rfl (by simp) (by decide) (by decide) (by decide) ⟨rfl, by simp [g0, g1], rfl⟩
    · refine W.icmpN d13_21 (XT.ii_eq_f g1) (pc' := 24) rfl ?_
      refine W.iconst (0 : Int32) d13_24 (pc' := 25) rfl rfl ?_
      exact W.retN (t := .boolean) 0 d13_25 rfl (by simp) (by decide) (by decide) (by decide) ⟨rfl, by simp [g1], rfl⟩
  · refine W.icmpN d13_21 (XT.ii_eq_f g0) (pc' := 24) rfl ?_
    refine W.iconst (0 : Int32) d13_24 (pc' := 25) rfl rfl ?_
    exact W.retN (t := .boolean) 0 d13_25 rfl (by simp) (by decide) (by decide) (by decide) ⟨rfl, by simp [g0], rfl⟩
theorem pn_mL_3 : plainFor (⟨"java/lang/StringLatin1", "equals", "([B[B)Z"⟩ : MethodName) = true := by first | (refine plainFor_of_name ?_; simp [plainName, overriddenIn]; done) | (refine plainFor_of_name ?_; decide +kernel) | decide +kernel
set_option maxRecDepth 65536 in
set_option maxHeartbeats 40000000 in
theorem mL_3 (l : Launch) (Z : State) (n0 : Nat) (a0 : Array Value) (hw : ∀ d ∈ tables_1, d.before a0 Z = true) (u : Lst) (σ : Asn) (b1 b2 : Addr) (x0 x1 x2 y0 y1 y2 : Int32) (h1 : RdA Z σ b1 ([x0, x1, x2] : List Int32)) (h2 : RdA Z σ b2 ([y0, y1, y2] : List Int32)) : Sp l Z n0 u (⟨"java/lang/StringLatin1", "equals", "([B[B)Z"⟩ : MethodName) jdk_43_method_13_code 3 (some .boolean) ({ frames := 0, cells := 0, slots := 0, locals := 0 } : Room) [(.ref b1), (.ref b2)] (σ) (Ret u (some (.int (if ([x0, x1, x2] : List Int32) = ([y0, y1, y2] : List Int32) then 1 else 0))) σ) := by
  refine Sp.of (ls := #[.val (.ref b1), .val (.ref b2), .unset]) pn_mL_3 (fun m => by first | (simp [entryFrame, mkF, argsToLocals, Value.category]; done) | rfl) ?_
  show W _ _ _ ("java/lang/StringLatin1", "equals", jdk_43_method_13_code, 3, (some .boolean), u) _ _ 0 0 (σ) 0 #[.val (.ref b1), .val (.ref b2), .unset] []
  refine W.aloadN d13_0 (pc' := 1) rfl rfl rfl ?_
  refine W.lenM (3 : Int32) h1 d13_1 rfl (pc' := 2) rfl ?_
  refine W.aloadN d13_2 (pc' := 3) rfl rfl rfl ?_
  refine W.lenM (3 : Int32) h2 d13_3 rfl (pc' := 4) rfl ?_
  refine W.icmpN d13_4 (by decide) (pc' := 7) rfl ?_
  refine W.iconst (0 : Int32) d13_7 (pc' := 8) rfl rfl ?_
  refine W.istoreN #[.val (.ref b1), .val (.ref b2), .val (.int (0 : Int32))] d13_8 (pc' := 9) rfl rfl ?_
  refine W.iloadN d13_9 (pc' := 10) rfl rfl ?_
  refine W.aloadN d13_10 (pc' := 11) rfl rfl rfl ?_
  refine W.lenM (3 : Int32) h1 d13_11 rfl (pc' := 12) rfl ?_
  refine W.icmpN d13_12 (by decide) (pc' := 15) rfl ?_
  refine W.aloadN d13_15 (pc' := 16) rfl rfl rfl ?_
  refine W.iloadN d13_16 (pc' := 17) rfl rfl ?_
  refine W.baloadM 0 h1 d13_17 (by decide) rfl rfl (pc' := 18) rfl ?_
  refine W.aloadN d13_18 (pc' := 19) rfl rfl rfl ?_
  refine W.iloadN d13_19 (pc' := 20) rfl rfl ?_
  refine W.baloadM 0 h2 d13_20 (by decide) rfl rfl (pc' := 21) rfl ?_
  by_cases g0 : x0 = y0
  · refine W.icmpY d13_21 (XT.ii_eq_t g0) (by decide) (pc' := 26) rfl ?_
    refine W.iinc #[.val (.ref b1), .val (.ref b2), .val (.int (1 : Int32))] (1 : Int32) (1 : Int32) d13_26 (pc' := 29) rfl rfl rfl (by decide) rfl ?_
    refine W.goto d13_29 (pc' := 9) (by decide) rfl ?_
    refine W.iloadN d13_9 (pc' := 10) rfl rfl ?_
    refine W.aloadN d13_10 (pc' := 11) rfl rfl rfl ?_
    refine W.lenM (3 : Int32) h1 d13_11 rfl (pc' := 12) rfl ?_
    refine W.icmpN d13_12 (by decide) (pc' := 15) rfl ?_
    refine W.aloadN d13_15 (pc' := 16) rfl rfl rfl ?_
    refine W.iloadN d13_16 (pc' := 17) rfl rfl ?_
    refine W.baloadM 1 h1 d13_17 (by decide) rfl rfl (pc' := 18) rfl ?_
    refine W.aloadN d13_18 (pc' := 19) rfl rfl rfl ?_
    refine W.iloadN d13_19 (pc' := 20) rfl rfl ?_
    refine W.baloadM 1 h2 d13_20 (by decide) rfl rfl (pc' := 21) rfl ?_
    by_cases g1 : x1 = y1
    · refine W.icmpY d13_21 (XT.ii_eq_t g1) (by decide) (pc' := 26) rfl ?_
      refine W.iinc #[.val (.ref b1), .val (.ref b2), .val (.int (2 : Int32))] (1 : Int32) (2 : Int32) d13_26 (pc' := 29) rfl rfl rfl (by decide) rfl ?_
      refine W.goto d13_29 (pc' := 9) (by decide) rfl ?_
      refine W.iloadN d13_9 (pc' := 10) rfl rfl ?_
      refine W.aloadN d13_10 (pc' := 11) rfl rfl rfl ?_
      refine W.lenM (3 : Int32) h1 d13_11 rfl (pc' := 12) rfl ?_
      refine W.icmpN d13_12 (by decide) (pc' := 15) rfl ?_
      refine W.aloadN d13_15 (pc' := 16) rfl rfl rfl ?_
      refine W.iloadN d13_16 (pc' := 17) rfl rfl ?_
      refine W.baloadM 2 h1 d13_17 (by decide) rfl rfl (pc' := 18) rfl ?_
      refine W.aloadN d13_18 (pc' := 19) rfl rfl rfl ?_
      refine W.iloadN d13_19 (pc' := 20) rfl rfl ?_
      refine W.baloadM 2 h2 d13_20 (by decide) rfl rfl (pc' := 21) rfl ?_
      by_cases g2 : x2 = y2
      · refine W.icmpY d13_21 (XT.ii_eq_t g2) (by decide) (pc' := 26) rfl ?_
        refine W.iinc #[.val (.ref b1), .val (.ref b2), .val (.int (3 : Int32))] (1 : Int32) (3 : Int32) d13_26 (pc' := 29) rfl rfl rfl (by decide) rfl ?_
        refine W.goto d13_29 (pc' := 9) (by decide) rfl ?_
        refine W.iloadN d13_9 (pc' := 10) rfl rfl ?_
        refine W.aloadN d13_10 (pc' := 11) rfl rfl rfl ?_
        refine W.lenM (3 : Int32) h1 d13_11 rfl (pc' := 12) rfl ?_
        refine W.icmpY d13_12 (by decide) (by decide) (pc' := 32) rfl ?_
        refine W.iconst (1 : Int32) d13_32 (pc' := 33) rfl rfl ?_
        exact W.retN (t := .boolean) 1 d13_33 rfl (by simp) (by decide) (by decide) (by decide) ⟨rfl, by simp [g0, g1, g2], rfl⟩
      · refine W.icmpN d13_21 (XT.ii_eq_f g2) (pc' := 24) rfl ?_
        refine W.iconst (0 : Int32) d13_24 (pc' := 25) rfl rfl ?_
        exact W.retN (t := .boolean) 0 d13_25 rfl (by simp) (by decide) (by decide) (by decide) ⟨rfl, by simp [g2], rfl⟩
    · refine W.icmpN d13_21 (XT.ii_eq_f g1) (pc' := 24) rfl ?_
      refine W.iconst (0 : Int32) d13_24 (pc' := 25) rfl rfl ?_
      exact W.retN (t := .boolean) 0 d13_25 rfl (by simp) (by decide) (by decide) (by decide) ⟨rfl, by simp [g1], rfl⟩
  · refine W.icmpN d13_21 (XT.ii_eq_f g0) (pc' := 24) rfl ?_
    refine W.iconst (0 : Int32) d13_24 (pc' := 25) rfl rfl ?_
    exact W.retN (t := .boolean) 0 d13_25 rfl (by simp) (by decide) (by decide) (by decide) ⟨rfl, by simp [g0], rfl⟩
theorem pn_mL_x : plainFor (⟨"java/lang/StringLatin1", "equals", "([B[B)Z"⟩ : MethodName) = true := by first | (refine plainFor_of_name ?_; simp [plainName, overriddenIn]; done) | (refine plainFor_of_name ?_; decide +kernel) | decide +kernel
set_option maxRecDepth 65536 in
set_option maxHeartbeats 40000000 in
theorem mL_x (l : Launch) (Z : State) (n0 : Nat) (a0 : Array Value) (hw : ∀ d ∈ tables_1, d.before a0 Z = true) (u : Lst) (σ : Asn) (b1 b2 : Addr) (xs ys : List Int32) (h1 : RdA Z σ b1 xs) (h2 : RdA Z σ b2 ys) (hx : xs.length < 4) (hy : ys.length < 4) (hl : xs.length ≠ ys.length) : Sp l Z n0 u (⟨"java/lang/StringLatin1", "equals", "([B[B)Z"⟩ : MethodName) jdk_43_method_13_code 3 (some .boolean) ({ frames := 0, cells := 0, slots := 0, locals := 0 } : Room) [(.ref b1), (.ref b2)] (σ) (Ret u (some (.int 0)) σ) := by
  refine Sp.of (ls := #[.val (.ref b1), .val (.ref b2), .unset]) pn_mL_x (fun m => by first | (simp [entryFrame, mkF, argsToLocals, Value.category]; done) | rfl) ?_
  show W _ _ _ ("java/lang/StringLatin1", "equals", jdk_43_method_13_code, 3, (some .boolean), u) _ _ 0 0 (σ) 0 #[.val (.ref b1), .val (.ref b2), .unset] []
  refine W.aloadN d13_0 (pc' := 1) rfl rfl rfl ?_
  refine W.lenM xs.length.toInt32 h1 d13_1 rfl (pc' := 2) rfl ?_
  refine W.aloadN d13_2 (pc' := 3) rfl rfl rfl ?_
  refine W.lenM ys.length.toInt32 h2 d13_3 rfl (pc' := 4) rfl ?_
  refine W.icmpY d13_4 (XT.ii_ne_t (own_lne hx hy hl)) (by decide) (pc' := 34) rfl ?_
  refine W.iconst (0 : Int32) d13_34 (pc' := 35) rfl rfl ?_
  exact W.retN (t := .boolean) 0 d13_35 rfl (by simp) (by decide) (by decide) (by decide) ⟨rfl, rfl, rfl⟩
theorem mL (l : Launch) (Z : State) (n0 : Nat) (a0 : Array Value) (hw : ∀ d ∈ tables_1, d.before a0 Z = true) (u : Lst) (σ : Asn) (b1 b2 : Addr) (xs ys : List Int32) (h1 : RdA Z σ b1 xs) (h2 : RdA Z σ b2 ys) (hx : xs.length < 4) (hy : ys.length < 4) : Sp l Z n0 u (⟨"java/lang/StringLatin1", "equals", "([B[B)Z"⟩ : MethodName) jdk_43_method_13_code 3 (some .boolean) ({ frames := 0, cells := 0, slots := 0, locals := 0 } : Room) [.ref b1, .ref b2] σ (Ret u (some (.int (if xs = ys then 1 else 0))) σ) := by
  by_cases hl : xs.length = ys.length
  · rcases xs with _ | ⟨x0, _ | ⟨x1, _ | ⟨x2, _ | ⟨x3, xt⟩⟩⟩⟩ <;> rcases ys with _ | ⟨y0, _ | ⟨y1, _ | ⟨y2, _ | ⟨y3, yt⟩⟩⟩⟩
    all_goals first
      | exact mL_0 l Z n0 a0 hw u σ b1 b2 h1 h2
      | exact mL_1 l Z n0 a0 hw u σ b1 b2 _ _ h1 h2
      | exact mL_2 l Z n0 a0 hw u σ b1 b2 _ _ _ _ h1 h2
      | exact mL_3 l Z n0 a0 hw u σ b1 b2 _ _ _ _ _ _ h1 h2
      | (exfalso; simp only [List.length_cons, List.length_nil] at hl hx hy; omega)
  · exact Sp.mono (fun w v σ' ⟨e1, e2, e3⟩ => ⟨e1, by rw [e2, if_neg (fun e => hl (by rw [e]))], e3⟩) (mL_x l Z n0 a0 hw u σ b1 b2 xs ys h1 h2 hx hy hl)
theorem pn_mSE : plainFor (⟨"java/lang/String", "equals", "(Ljava/lang/Object;)Z"⟩ : MethodName) = true := by first | (refine plainFor_of_name ?_; simp [plainName, overriddenIn]; done) | (refine plainFor_of_name ?_; decide +kernel) | decide +kernel
set_option maxRecDepth 65536 in
set_option maxHeartbeats 40000000 in
theorem mSE (l : Launch) (Z : State) (n0 : Nat) (a0 : Array Value) (hw : ∀ d ∈ tables_1, d.before a0 Z = true) (u : Lst) (cs : Int32) (hcs : ¬ cs = 0) (hst : Sta Z Z.heap "java/lang/String" "COMPACT_STRINGS" "Z" (.int cs)) (σ : Asn) (q1 q2 : Addr) (xs ys : List Int32) (h1 : own_T Z σ q1 xs) (h2 : own_T Z σ q2 ys) : Sp l Z n0 u (⟨"java/lang/String", "equals", "(Ljava/lang/Object;)Z"⟩ : MethodName) jdk_42_method_66_code 3 (some .boolean) ({ frames := 1, cells := 0, slots := 0, locals := 14 } : Room) [(.ref q1), (.ref q2)] (σ) (Ret u (some (.int (if xs = ys then 1 else 0))) σ) := by
  refine Sp.of (ls := #[.val (.ref q1), .val (.ref q2), .unset]) pn_mSE (fun m => by first | (simp [entryFrame, mkF, argsToLocals, Value.category]; done) | rfl) ?_
  show W _ _ _ ("java/lang/String", "equals", jdk_42_method_66_code, 3, (some .boolean), u) _ _ 0 0 (σ) 0 #[.val (.ref q1), .val (.ref q2), .unset] []
  obtain ⟨b1, hq1, hA1, hx⟩ := h1
  obtain ⟨b2, hq2, hA2, hy⟩ := h2
  refine W.sameS hq1 hq2 hA1 hA2 ?_
  intro hsame
  refine W.aloadN d12_0 (pc' := 1) rfl rfl rfl ?_
  refine W.aloadN d12_1 (pc' := 2) rfl rfl rfl ?_
  by_cases g : q1 = q2
  · refine W.acmpN d12_2 rfl rfl (XT.aa_ne_f (by rw [g])) (pc' := 5) rfl ?_
    refine W.iconst (1 : Int32) d12_5 (pc' := 6) rfl rfl ?_
    exact W.retN (t := .boolean) 1 d12_6 rfl (by simp) (by decide) (by decide) (by decide) ⟨rfl, by rw [if_pos (hsame g)], rfl⟩
  · refine W.acmpY d12_2 rfl rfl (XT.aa_ne_t (fun e => g (by simpa using e))) (by decide) (pc' := 7) rfl ?_
    refine W.aloadN d12_7 (pc' := 8) rfl rfl rfl ?_
    refine W.instY hq2 d12_8 (wd hw 70 rfl) (pc' := 11) rfl ?_
    refine W.ifN d12_11 (by decide) (pc' := 14) rfl ?_
    refine W.aloadN d12_14 (pc' := 15) rfl rfl rfl ?_
    refine W.castM hq2 d12_15 (wd hw 70 rfl) (pc' := 18) rfl ?_
    refine W.astoreN #[.val (.ref q1), .val (.ref q2), .val (.ref q2)] d12_18 (pc' := 19) rfl rfl rfl ?_
    refine W.getS d12_19 (wd hw 29 rfl) Via.refl hst (pc' := 22) rfl ?_
    refine W.ifN d12_22 (XT.i0_eq_f hcs) (pc' := 25) rfl ?_
    refine W.aloadN d12_25 (pc' := 26) rfl rfl rfl ?_
    refine W.getM 1 hq1 d12_26 (host := "") (Or.inl (wd hw 28 rfl)) Via.refl rfl (pc' := 29) rfl ?_
    refine W.aloadN d12_29 (pc' := 30) rfl rfl rfl ?_
    refine W.getM 1 hq2 d12_30 (host := "") (Or.inl (wd hw 28 rfl)) Via.refl rfl (pc' := 33) rfl ?_
    refine W.icmpN d12_33 (by decide) (pc' := 36) rfl ?_
    refine W.aloadN d12_36 (pc' := 37) rfl rfl rfl ?_
    refine W.getM 0 hq1 d12_37 (host := "") (Or.inl (wd hw 27 rfl)) Via.refl rfl (pc' := 40) rfl ?_
    refine W.aloadN d12_40 (pc' := 41) rfl rfl rfl ?_
    refine W.getM 0 hq2 d12_41 (host := "") (Or.inl (wd hw 27 rfl)) Via.refl rfl (pc' := 44) rfl ?_
    refine W.callS (mL l Z n0 a0 hw u σ b1 b2 xs ys hA1 hA2 hx hy) d12_44 (wd hw 71 rfl) (wd hw 72 rfl) (wd hw 73 rfl) (wd hw 74 rfl) (by decide) pd6 rfl rfl (Nat.le_of_ble_eq_true rfl) (Nat.le_of_ble_eq_true rfl) (Nat.le_of_ble_eq_true rfl) (Nat.le_of_ble_eq_true rfl) rfl (pc' := 47) rfl ?_
    rintro w9 v9 s9 ⟨rfl, rfl, e9⟩
    obtain rfl := e9.symm
    show W _ _ _ ("java/lang/String", "equals", jdk_42_method_66_code, 3, (some .boolean), u) _ _ 0 0 (σ) 47 #[.val (.ref q1), .val (.ref q2), .val (.ref q2)] [(.int (if xs = ys then 1 else 0))]
    by_cases e : xs = ys
    · refine W.ifN d12_47 (XT.i0_eq_f (by rw [if_pos e]; decide)) (pc' := 50) rfl ?_
      refine W.iconst (1 : Int32) d12_50 (pc' := 51) rfl rfl ?_
      refine W.goto d12_51 (pc' := 55) (by decide) rfl ?_
      exact W.retN (t := .boolean) 1 d12_55 rfl (by simp) (by decide) (by decide) (by decide) ⟨rfl, by rw [if_pos e], rfl⟩
    · refine W.ifY d12_47 (XT.i0_eq_t (if_neg e)) (by decide) (pc' := 54) rfl ?_
      refine W.iconst (0 : Int32) d12_54 (pc' := 55) rfl rfl ?_
      exact W.retN (t := .boolean) 0 d12_55 rfl (by simp) (by decide) (by decide) (by decide) ⟨rfl, by rw [if_neg e], rfl⟩
theorem pn_mTE : plainFor (⟨"com/example/lost_update_guard/lostupdateguard/Cascades$Table", "equals", "(Ljava/lang/Object;)Z"⟩ : MethodName) = true := by first | (refine plainFor_of_name ?_; simp [plainName, overriddenIn]; done) | (refine plainFor_of_name ?_; decide +kernel) | decide +kernel
set_option maxRecDepth 65536 in
set_option maxHeartbeats 40000000 in
theorem mTE (l : Launch) (Z : State) (n0 : Nat) (a0 : Array Value) (hw : ∀ d ∈ tables_1, d.before a0 Z = true) (u : Lst) (cs : Int32) (hcs : ¬ cs = 0) (hst : Sta Z Z.heap "java/lang/String" "COMPACT_STRINGS" "Z" (.int cs)) (σ : Asn) (t t2 : Addr) (xs ys xs2 ys2 : List Int32) (h1 : own_TT Z σ t xs ys) (h2 : own_TT Z σ t2 xs2 ys2) : Sp l Z n0 u (⟨"com/example/lost_update_guard/lostupdateguard/Cascades$Table", "equals", "(Ljava/lang/Object;)Z"⟩ : MethodName) prog_11_method_5_code 3 (some .boolean) ({ frames := 2, cells := 0, slots := 0, locals := 28 } : Room) [(.ref t), (.ref t2)] (σ) (Ret u (some (.int (if xs = xs2 ∧ ys = ys2 then 1 else 0))) σ) := by
  refine Sp.of (ls := #[.val (.ref t), .val (.ref t2), .unset]) pn_mTE (fun m => by first | (simp [entryFrame, mkF, argsToLocals, Value.category]; done) | rfl) ?_
  show W _ _ _ ("com/example/lost_update_guard/lostupdateguard/Cascades$Table", "equals", prog_11_method_5_code, 3, (some .boolean), u) _ _ 0 0 (σ) 0 #[.val (.ref t), .val (.ref t2), .unset] []
  obtain ⟨q1, q2, hm1, hs1, hn1⟩ := h1
  obtain ⟨p1, p2, hm2, hs2, hn2⟩ := h2
  obtain ⟨b1, hq1, -, -⟩ := id hs1
  obtain ⟨b2, hq2, -, -⟩ := id hn1
  refine W.aloadN d11_0 (pc' := 1) rfl rfl rfl ?_
  refine W.instY hm2 d11_1 (wd hw 63 rfl) (pc' := 4) rfl ?_
  refine W.ifN d11_4 (by decide) (pc' := 7) rfl ?_
  refine W.aloadN d11_7 (pc' := 8) rfl rfl rfl ?_
  refine W.castM hm2 d11_8 (wd hw 63 rfl) (pc' := 11) rfl ?_
  refine W.astoreN #[.val (.ref t), .val (.ref t2), .val (.ref t2)] d11_11 (pc' := 12) rfl rfl rfl ?_
  refine W.aloadN d11_12 (pc' := 13) rfl rfl rfl ?_
  refine W.getM 0 hm1 d11_13 (host := "") (Or.inl (wd hw 50 rfl)) Via.refl rfl (pc' := 16) rfl ?_
  refine W.aloadN d11_16 (pc' := 17) rfl rfl rfl ?_
  refine W.getM 0 hm2 d11_17 (host := "") (Or.inl (wd hw 50 rfl)) Via.refl rfl (pc' := 20) rfl ?_
  refine W.callVM hq1 (mSE l Z n0 a0 hw u cs hcs hst σ q1 p1 xs xs2 hs1 hs2) d11_20 (wd hw 65 rfl) (wd hw 66 rfl) (wd hw 68 rfl) (wd hw 67 rfl) (wd hw 9 rfl) (wd hw 69 rfl) rfl (by decide) pd7 rfl rfl (Nat.le_of_ble_eq_true rfl) (Nat.le_of_ble_eq_true rfl) (Nat.le_of_ble_eq_true rfl) (Nat.le_of_ble_eq_true rfl) rfl (pc' := 23) rfl ?_
  rintro w9 v9 s9 ⟨rfl, rfl, e9⟩
  obtain rfl := e9.symm
  show W _ _ _ ("com/example/lost_update_guard/lostupdateguard/Cascades$Table", "equals", prog_11_method_5_code, 3, (some .boolean), u) _ _ 0 0 (σ) 23 #[.val (.ref t), .val (.ref t2), .val (.ref t2)] [(.int (if xs = xs2 then 1 else 0))]
  by_cases e1 : xs = xs2
  · refine W.ifN d11_23 (XT.i0_eq_f (by rw [if_pos e1]; decide)) (pc' := 26) rfl ?_
    refine W.aloadN d11_26 (pc' := 27) rfl rfl rfl ?_
    refine W.getM 1 hm1 d11_27 (host := "") (Or.inl (wd hw 53 rfl)) Via.refl rfl (pc' := 30) rfl ?_
    refine W.aloadN d11_30 (pc' := 31) rfl rfl rfl ?_
    refine W.getM 1 hm2 d11_31 (host := "") (Or.inl (wd hw 53 rfl)) Via.refl rfl (pc' := 34) rfl ?_
    refine W.callVM hq2 (mSE l Z n0 a0 hw u cs hcs hst σ q2 p2 ys ys2 hn1 hn2) d11_34 (wd hw 65 rfl) (wd hw 66 rfl) (wd hw 68 rfl) (wd hw 67 rfl) (wd hw 9 rfl) (wd hw 69 rfl) rfl (by decide) pd7 rfl rfl (Nat.le_of_ble_eq_true rfl) (Nat.le_of_ble_eq_true rfl) (Nat.le_of_ble_eq_true rfl) (Nat.le_of_ble_eq_true rfl) rfl (pc' := 37) rfl ?_
    rintro w9 v9 s9 ⟨rfl, rfl, e9⟩
    obtain rfl := e9.symm
    show W _ _ _ ("com/example/lost_update_guard/lostupdateguard/Cascades$Table", "equals", prog_11_method_5_code, 3, (some .boolean), u) _ _ 0 0 (σ) 37 #[.val (.ref t), .val (.ref t2), .val (.ref t2)] [(.int (if ys = ys2 then 1 else 0))]
    by_cases e2 : ys = ys2
    · refine W.ifN d11_37 (XT.i0_eq_f (by rw [if_pos e2]; decide)) (pc' := 40) rfl ?_
      refine W.iconst (1 : Int32) d11_40 (pc' := 41) rfl rfl ?_
      refine W.goto d11_41 (pc' := 45) (by decide) rfl ?_
      exact W.retN (t := .boolean) 1 d11_45 rfl (by simp) (by decide) (by decide) (by decide) ⟨rfl, by rw [if_pos ⟨e1, e2⟩], rfl⟩
    · refine W.ifY d11_37 (XT.i0_eq_t (if_neg e2)) (by decide) (pc' := 44) rfl ?_
      refine W.iconst (0 : Int32) d11_44 (pc' := 45) rfl rfl ?_
      exact W.retN (t := .boolean) 0 d11_45 rfl (by simp) (by decide) (by decide) (by decide) ⟨rfl, by rw [if_neg (fun h => e2 h.2)], rfl⟩
  · refine W.ifY d11_23 (XT.i0_eq_t (if_neg e1)) (by decide) (pc' := 44) rfl ?_
    refine W.iconst (0 : Int32) d11_44 (pc' := 45) rfl rfl ?_
    exact W.retN (t := .boolean) 0 d11_45 rfl (by simp) (by decide) (by decide) (by decide) ⟨rfl, by rw [if_neg (fun h => e1 h.1)], rfl⟩
theorem pn_mTE_n : plainFor (⟨"com/example/lost_update_guard/lostupdateguard/Cascades$Table", "equals", "(Ljava/lang/Object;)Z"⟩ : MethodName) = true := by first | (refine plainFor_of_name ?_; simp [plainName, overriddenIn]; done) | (refine plainFor_of_name ?_; decide +kernel) | decide +kernel
set_option maxRecDepth 65536 in
set_option maxHeartbeats 40000000 in
theorem mTE_n (l : Launch) (Z : State) (n0 : Nat) (a0 : Array Value) (hw : ∀ d ∈ tables_1, d.before a0 Z = true) (u : Lst) (σ : Asn) (t : Addr) : Sp l Z n0 u (⟨"com/example/lost_update_guard/lostupdateguard/Cascades$Table", "equals", "(Ljava/lang/Object;)Z"⟩ : MethodName) prog_11_method_5_code 3 (some .boolean) ({ frames := 2, cells := 0, slots := 0, locals := 28 } : Room) [(.ref t), .null] (σ) (Ret u (some (.int 0)) σ) := by
  refine Sp.of (ls := #[.val (.ref t), .val .null, .unset]) pn_mTE_n (fun m => by first | (simp [entryFrame, mkF, argsToLocals, Value.category]; done) | rfl) ?_
  show W _ _ _ ("com/example/lost_update_guard/lostupdateguard/Cascades$Table", "equals", prog_11_method_5_code, 3, (some .boolean), u) _ _ 0 0 (σ) 0 #[.val (.ref t), .val .null, .unset] []
  refine W.aloadN d11_0 (pc' := 1) rfl rfl rfl ?_
  refine W.instNull d11_1 (pc' := 4) rfl ?_
  refine W.ifY d11_4 (by decide) (by decide) (pc' := 44) rfl ?_
  refine W.iconst (0 : Int32) d11_44 (pc' := 45) rfl rfl ?_
  exact W.retN (t := .boolean) 0 d11_45 rfl (by simp) (by decide) (by decide) (by decide) ⟨rfl, rfl, rfl⟩
theorem pn_mTE_s : plainFor (⟨"com/example/lost_update_guard/lostupdateguard/Cascades$Table", "equals", "(Ljava/lang/Object;)Z"⟩ : MethodName) = true := by first | (refine plainFor_of_name ?_; simp [plainName, overriddenIn]; done) | (refine plainFor_of_name ?_; decide +kernel) | decide +kernel
set_option maxRecDepth 65536 in
set_option maxHeartbeats 40000000 in
theorem mTE_s (l : Launch) (Z : State) (n0 : Nat) (a0 : Array Value) (hw : ∀ d ∈ tables_1, d.before a0 Z = true) (u : Lst) (σ : Asn) (t q1 b1 : Addr) (hq : (q1, (own_Str Z (.ref b1) (.int (0 : Int32)))) ∈ σ) : Sp l Z n0 u (⟨"com/example/lost_update_guard/lostupdateguard/Cascades$Table", "equals", "(Ljava/lang/Object;)Z"⟩ : MethodName) prog_11_method_5_code 3 (some .boolean) ({ frames := 2, cells := 0, slots := 0, locals := 28 } : Room) [(.ref t), (.ref q1)] (σ) (Ret u (some (.int 0)) σ) := by
  refine Sp.of (ls := #[.val (.ref t), .val (.ref q1), .unset]) pn_mTE_s (fun m => by first | (simp [entryFrame, mkF, argsToLocals, Value.category]; done) | rfl) ?_
  show W _ _ _ ("com/example/lost_update_guard/lostupdateguard/Cascades$Table", "equals", prog_11_method_5_code, 3, (some .boolean), u) _ _ 0 0 (σ) 0 #[.val (.ref t), .val (.ref q1), .unset] []
  refine W.aloadN d11_0 (pc' := 1) rfl rfl rfl ?_
  refine W.instN hq (no_table (wd hw 75 rfl) (wd hw 76 rfl) (wd hw 1 rfl) (by decide) (by decide)) d11_1 (wd hw 63 rfl) (pc' := 4) rfl ?_
  refine W.ifY d11_4 (by decide) (by decide) (pc' := 44) rfl ?_
  refine W.iconst (0 : Int32) d11_44 (pc' := 45) rfl rfl ?_
  exact W.retN (t := .boolean) 0 d11_45 rfl (by simp) (by decide) (by decide) (by decide) ⟨rfl, rfl, rfl⟩
theorem pn_mST : plainFor (⟨"com/example/lost_update_guard/lostupdateguard/TableEqualsPinLaw", "sameText", "(II)Z"⟩ : MethodName) = true := by first | (refine plainFor_of_name ?_; simp [plainName, overriddenIn]; done) | (refine plainFor_of_name ?_; decide +kernel) | decide +kernel
set_option maxRecDepth 65536 in
set_option maxHeartbeats 40000000 in
theorem mST (l : Launch) (Z : State) (n0 : Nat) (a0 : Array Value) (hw : ∀ d ∈ tables_1, d.before a0 Z = true) (u : Lst) (σ : Asn) (vx vy : Int32) : Sp l Z n0 u (⟨"com/example/lost_update_guard/lostupdateguard/TableEqualsPinLaw", "sameText", "(II)Z"⟩ : MethodName) method_4_code 6 (some .boolean) ({ frames := 0, cells := 0, slots := 0, locals := 0 } : Room) [(.int vx), (.int vy)] (σ) (Ret u (some (.int (if own_txt vx = own_txt vy then 1 else 0))) σ) := by
  refine Sp.of (ls := #[.val (.int vx), .val (.int vy), .unset, .unset, .unset, .unset]) pn_mST (fun m => by first | (simp [entryFrame, mkF, argsToLocals, Value.category]; done) | rfl) ?_
  show W _ _ _ ("com/example/lost_update_guard/lostupdateguard/TableEqualsPinLaw", "sameText", method_4_code, 6, (some .boolean), u) _ _ 0 0 (σ) 0 #[.val (.int vx), .val (.int vy), .unset, .unset, .unset, .unset] []
  refine W.iloadN d10_0 (pc' := 1) rfl rfl ?_
  refine W.iconst (3 : Int32) d10_1 (pc' := 2) rfl rfl ?_
  refine W.iand d10_2 (pc' := 3) rfl ?_
  refine W.istoreN #[.val (.int vx), .val (.int vy), .val (.int (vx &&& (3 : Int32))), .unset, .unset, .unset] d10_3 (pc' := 4) rfl rfl ?_
  refine W.iloadN d10_4 (pc' := 5) rfl rfl ?_
  refine W.iloadN d10_5 (pc' := 6) rfl rfl ?_
  refine W.iconst (3 : Int32) d10_6 (pc' := 7) rfl rfl ?_
  refine W.iand d10_7 (pc' := 8) rfl ?_
  by_cases g : (vx &&& (3 : Int32)) = (vy &&& (3 : Int32))
  · refine W.icmpY d10_8 (XT.ii_eq_t g) (by decide) (pc' := 13) rfl ?_
    refine W.iloadN d10_13 (pc' := 14) rfl rfl ?_
    refine W.iconst (2 : Int32) d10_14 (pc' := 15) rfl rfl ?_
    refine W.iushr d10_15 (pc' := 16) rfl ?_
    refine W.sipush (255 : Int32) d10_16 (pc' := 19) rfl rfl ?_
    refine W.iand d10_19 (pc' := 20) rfl ?_
    refine W.iloadN d10_20 (pc' := 21) rfl rfl ?_
    refine W.iconst (2 : Int32) d10_21 (pc' := 22) rfl rfl ?_
    refine W.iushr d10_22 (pc' := 23) rfl ?_
    refine W.sipush (255 : Int32) d10_23 (pc' := 26) rfl rfl ?_
    refine W.iand d10_26 (pc' := 27) rfl ?_
    have j_z1 : ∀ (z1 : Int32) (_ : z1 = (if ((XT.ushr vx (2 : Int32)) &&& (255 : Int32)) = ((XT.ushr vy (2 : Int32)) &&& (255 : Int32)) then (1 : Int32) else (0 : Int32))), W l Z n0 ("com/example/lost_update_guard/lostupdateguard/TableEqualsPinLaw", "sameText", method_4_code, 6, (some .boolean), u) ({ frames := 0, cells := 0, slots := 0, locals := 0 } : Room) (Ret u (some (.int (if own_txt vx = own_txt vy then 1 else 0))) σ) 0 0 (σ) 35 #[.val (.int vx), .val (.int vy), .val (.int (vx &&& (3 : Int32))), .unset, .unset, .unset] [(.int z1)] := by
      intro z1 h_z1
      refine W.istoreN #[.val (.int vx), .val (.int vy), .val (.int (vx &&& (3 : Int32))), .val (.int z1), .unset, .unset] d10_35 (pc' := 36) rfl rfl ?_
      refine W.iloadN d10_36 (pc' := 37) rfl rfl ?_
      refine W.bipush (10 : Int32) d10_37 (pc' := 39) rfl rfl ?_
      refine W.iushr d10_39 (pc' := 40) rfl ?_
      refine W.sipush (255 : Int32) d10_40 (pc' := 43) rfl rfl ?_
      refine W.iand d10_43 (pc' := 44) rfl ?_
      refine W.iloadN d10_44 (pc' := 45) rfl rfl ?_
      refine W.bipush (10 : Int32) d10_45 (pc' := 47) rfl rfl ?_
      refine W.iushr d10_47 (pc' := 48) rfl ?_
      refine W.sipush (255 : Int32) d10_48 (pc' := 51) rfl rfl ?_
      refine W.iand d10_51 (pc' := 52) rfl ?_
      have j_z2 : ∀ (z2 : Int32) (_ : z2 = (if ((XT.ushr vx (10 : Int32)) &&& (255 : Int32)) = ((XT.ushr vy (10 : Int32)) &&& (255 : Int32)) then (1 : Int32) else (0 : Int32))), W l Z n0 ("com/example/lost_update_guard/lostupdateguard/TableEqualsPinLaw", "sameText", method_4_code, 6, (some .boolean), u) ({ frames := 0, cells := 0, slots := 0, locals := 0 } : Room) (Ret u (some (.int (if own_txt vx = own_txt vy then 1 else 0))) σ) 0 0 (σ) 60 #[.val (.int vx), .val (.int vy), .val (.int (vx &&& (3 : Int32))), .val (.int z1), .unset, .unset] [(.int z2)] := by
        intro z2 h_z2
        refine W.istore #[.val (.int vx), .val (.int vy), .val (.int (vx &&& (3 : Int32))), .val (.int z1), .val (.int z2), .unset] d10_60 (pc' := 62) rfl rfl ?_
        refine W.iloadN d10_62 (pc' := 63) rfl rfl ?_
        refine W.bipush (18 : Int32) d10_63 (pc' := 65) rfl rfl ?_
        refine W.iushr d10_65 (pc' := 66) rfl ?_
        refine W.sipush (255 : Int32) d10_66 (pc' := 69) rfl rfl ?_
        refine W.iand d10_69 (pc' := 70) rfl ?_
        refine W.iloadN d10_70 (pc' := 71) rfl rfl ?_
        refine W.bipush (18 : Int32) d10_71 (pc' := 73) rfl rfl ?_
        refine W.iushr d10_73 (pc' := 74) rfl ?_
        refine W.sipush (255 : Int32) d10_74 (pc' := 77) rfl rfl ?_
        refine W.iand d10_77 (pc' := 78) rfl ?_
        have j_z3 : ∀ (z3 : Int32) (_ : z3 = (if ((XT.ushr vx (18 : Int32)) &&& (255 : Int32)) = ((XT.ushr vy (18 : Int32)) &&& (255 : Int32)) then (1 : Int32) else (0 : Int32))), W l Z n0 ("com/example/lost_update_guard/lostupdateguard/TableEqualsPinLaw", "sameText", method_4_code, 6, (some .boolean), u) ({ frames := 0, cells := 0, slots := 0, locals := 0 } : Room) (Ret u (some (.int (if own_txt vx = own_txt vy then 1 else 0))) σ) 0 0 (σ) 86 #[.val (.int vx), .val (.int vy), .val (.int (vx &&& (3 : Int32))), .val (.int z1), .val (.int z2), .unset] [(.int z3)] := by
          intro z3 h_z3
          refine W.istore #[.val (.int vx), .val (.int vy), .val (.int (vx &&& (3 : Int32))), .val (.int z1), .val (.int z2), .val (.int z3)] d10_86 (pc' := 88) rfl rfl ?_
          refine W.iloadN d10_88 (pc' := 89) rfl rfl ?_
          by_cases k0 : (vx &&& (3 : Int32)) = 0
          · refine W.ifN d10_89 (XT.i0_ne_f k0) (pc' := 92) rfl ?_
            refine W.iconst (1 : Int32) d10_92 (pc' := 93) rfl rfl ?_
            exact W.retN (t := .boolean) 1 d10_93 rfl (by simp) (by decide) (by decide) (by decide) ⟨rfl, by rw [if_pos (own_s0 g k0)], rfl⟩
          · refine W.ifY d10_89 (XT.i0_ne_t k0) (by decide) (pc' := 94) rfl ?_
            refine W.iloadN d10_94 (pc' := 95) rfl rfl ?_
            refine W.iconst (1 : Int32) d10_95 (pc' := 96) rfl rfl ?_
            by_cases k1 : (vx &&& (3 : Int32)) = (1 : Int32)
            · refine W.icmpN d10_96 (XT.ii_ne_f k1) (pc' := 99) rfl ?_
              refine W.iloadN d10_99 (pc' := 100) rfl rfl ?_
              by_cases d1 : XT.ushr vx 2 &&& 255 = XT.ushr vy 2 &&& 255
              · refine W.topI (1 : Int32) (h_z1.trans (if_pos d1)) ?_
                exact W.retN (t := .boolean) 1 d10_100 rfl (by simp) (by decide) (by decide) (by decide) ⟨rfl, by rw [if_pos ((own_s1 g k1).mpr d1)], rfl⟩
              · refine W.topI (0 : Int32) (h_z1.trans (if_neg d1)) ?_
                exact W.retN (t := .boolean) 0 d10_100 rfl (by simp) (by decide) (by decide) (by decide) ⟨rfl, by rw [if_neg (fun h => d1 ((own_s1 g k1).mp h))], rfl⟩
            · refine W.icmpY d10_96 (XT.ii_ne_t k1) (by decide) (pc' := 101) rfl ?_
              refine W.iloadN d10_101 (pc' := 102) rfl rfl ?_
              refine W.iconst (2 : Int32) d10_102 (pc' := 103) rfl rfl ?_
              by_cases k2 : (vx &&& (3 : Int32)) = (2 : Int32)
              · refine W.icmpN d10_103 (XT.ii_ne_f k2) (pc' := 106) rfl ?_
                refine W.iloadN d10_106 (pc' := 107) rfl rfl ?_
                by_cases d1 : XT.ushr vx 2 &&& 255 = XT.ushr vy 2 &&& 255
                · refine W.ifN d10_107 (XT.i0_eq_f (by rw [h_z1, if_pos d1]; decide)) (pc' := 110) rfl ?_
                  refine W.iload d10_110 (pc' := 112) rfl rfl ?_
                  by_cases d2 : XT.ushr vx 10 &&& 255 = XT.ushr vy 10 &&& 255
                  · refine W.ifN d10_112 (XT.i0_eq_f (by rw [h_z2, if_pos d2]; decide)) (pc' := 115) rfl ?_
                    refine W.iconst (1 : Int32) d10_115 (pc' := 116) rfl rfl ?_
                    refine W.goto d10_116 (pc' := 120) (by decide) rfl ?_
                    exact W.retN (t := .boolean) 1 d10_120 rfl (by simp) (by decide) (by decide) (by decide) ⟨rfl, by rw [if_pos ((own_s2 g k2).mpr ⟨d1, d2⟩)], rfl⟩
                  · refine W.ifY d10_112 (XT.i0_eq_t (h_z2.trans (if_neg d2))) (by decide) (pc' := 119) rfl ?_
                    refine W.iconst (0 : Int32) d10_119 (pc' := 120) rfl rfl ?_
                    exact W.retN (t := .boolean) 0 d10_120 rfl (by simp) (by decide) (by decide) (by decide) ⟨rfl, by rw [if_neg (fun h => d2 ((own_s2 g k2).mp h).2)], rfl⟩
                · refine W.ifY d10_107 (XT.i0_eq_t (h_z1.trans (if_neg d1))) (by decide) (pc' := 119) rfl ?_
                  refine W.iconst (0 : Int32) d10_119 (pc' := 120) rfl rfl ?_
                  exact W.retN (t := .boolean) 0 d10_120 rfl (by simp) (by decide) (by decide) (by decide) ⟨rfl, by rw [if_neg (fun h => d1 ((own_s2 g k2).mp h).1)], rfl⟩
              · refine W.icmpY d10_103 (XT.ii_ne_t k2) (by decide) (pc' := 121) rfl ?_
                refine W.iloadN d10_121 (pc' := 122) rfl rfl ?_
                by_cases d1 : XT.ushr vx 2 &&& 255 = XT.ushr vy 2 &&& 255
                · refine W.ifN d10_122 (XT.i0_eq_f (by rw [h_z1, if_pos d1]; decide)) (pc' := 125) rfl ?_
                  refine W.iload d10_125 (pc' := 127) rfl rfl ?_
                  by_cases d2 : XT.ushr vx 10 &&& 255 = XT.ushr vy 10 &&& 255
                  · refine W.ifN d10_127 (XT.i0_eq_f (by rw [h_z2, if_pos d2]; decide)) (pc' := 130) rfl ?_
                    refine W.iload d10_130 (pc' := 132) rfl rfl ?_
                    by_cases d3 : XT.ushr vx 18 &&& 255 = XT.ushr vy 18 &&& 255
                    · refine W.ifN d10_132 (XT.i0_eq_f (by rw [h_z3, if_pos d3]; decide)) (pc' := 135) rfl ?_
                      refine W.iconst (1 : Int32) d10_135 (pc' := 136) rfl rfl ?_
                      refine W.goto d10_136 (pc' := 140) (by decide) rfl ?_
                      exact W.retN (t := .boolean) 1 d10_140 rfl (by simp) (by decide) (by decide) (by decide) ⟨rfl, by rw [if_pos ((own_sl g k0 k1 k2).mpr ⟨d1, d2, d3⟩)], rfl⟩
                    · refine W.ifY d10_132 (XT.i0_eq_t (h_z3.trans (if_neg d3))) (by decide) (pc' := 139) rfl ?_
                      refine W.iconst (0 : Int32) d10_139 (pc' := 140) rfl rfl ?_
                      exact W.retN (t := .boolean) 0 d10_140 rfl (by simp) (by decide) (by decide) (by decide) ⟨rfl, by rw [if_neg (fun h => d3 ((own_sl g k0 k1 k2).mp h).2.2)], rfl⟩
                  · refine W.ifY d10_127 (XT.i0_eq_t (h_z2.trans (if_neg d2))) (by decide) (pc' := 139) rfl ?_
                    refine W.iconst (0 : Int32) d10_139 (pc' := 140) rfl rfl ?_
                    exact W.retN (t := .boolean) 0 d10_140 rfl (by simp) (by decide) (by decide) (by decide) ⟨rfl, by rw [if_neg (fun h => d2 ((own_sl g k0 k1 k2).mp h).2.1)], rfl⟩
                · refine W.ifY d10_122 (XT.i0_eq_t (h_z1.trans (if_neg d1))) (by decide) (pc' := 139) rfl ?_
                  refine W.iconst (0 : Int32) d10_139 (pc' := 140) rfl rfl ?_
                  exact W.retN (t := .boolean) 0 d10_140 rfl (by simp) (by decide) (by decide) (by decide) ⟨rfl, by rw [if_neg (fun h => d1 ((own_sl g k0 k1 k2).mp h).1)], rfl⟩
        by_cases d3 : ((XT.ushr vx (18 : Int32)) &&& (255 : Int32)) = ((XT.ushr vy (18 : Int32)) &&& (255 : Int32))
        · refine W.icmpN d10_78 (XT.ii_ne_f d3) (pc' := 81) rfl ?_
          refine W.iconst (1 : Int32) d10_81 (pc' := 82) rfl rfl ?_
          refine W.goto d10_82 (pc' := 86) (by decide) rfl ?_
          exact j_z3 _ (if_pos d3).symm
        · refine W.icmpY d10_78 (XT.ii_ne_t d3) (by decide) (pc' := 85) rfl ?_
          refine W.iconst (0 : Int32) d10_85 (pc' := 86) rfl rfl ?_
          exact j_z3 _ (if_neg d3).symm
      by_cases d2 : ((XT.ushr vx (10 : Int32)) &&& (255 : Int32)) = ((XT.ushr vy (10 : Int32)) &&& (255 : Int32))
      · refine W.icmpN d10_52 (XT.ii_ne_f d2) (pc' := 55) rfl ?_
        refine W.iconst (1 : Int32) d10_55 (pc' := 56) rfl rfl ?_
        refine W.goto d10_56 (pc' := 60) (by decide) rfl ?_
        exact j_z2 _ (if_pos d2).symm
      · refine W.icmpY d10_52 (XT.ii_ne_t d2) (by decide) (pc' := 59) rfl ?_
        refine W.iconst (0 : Int32) d10_59 (pc' := 60) rfl rfl ?_
        exact j_z2 _ (if_neg d2).symm
    by_cases d1 : ((XT.ushr vx (2 : Int32)) &&& (255 : Int32)) = ((XT.ushr vy (2 : Int32)) &&& (255 : Int32))
    · refine W.icmpN d10_27 (XT.ii_ne_f d1) (pc' := 30) rfl ?_
      refine W.iconst (1 : Int32) d10_30 (pc' := 31) rfl rfl ?_
      refine W.goto d10_31 (pc' := 35) (by decide) rfl ?_
      exact j_z1 _ (if_pos d1).symm
    · refine W.icmpY d10_27 (XT.ii_ne_t d1) (by decide) (pc' := 34) rfl ?_
      refine W.iconst (0 : Int32) d10_34 (pc' := 35) rfl rfl ?_
      exact j_z1 _ (if_neg d1).symm
  · refine W.icmpN d10_8 (XT.ii_eq_f g) (pc' := 11) rfl ?_
    refine W.iconst (0 : Int32) d10_11 (pc' := 12) rfl rfl ?_
    exact W.retN (t := .boolean) 0 d10_12 rfl (by simp) (by decide) (by decide) (by decide) ⟨rfl, by rw [if_neg (fun h => g (own_s3 h))], rfl⟩
theorem pn_mLaw : plainFor x = true := by first | (refine plainFor_of_name ?_; simp [plainName, overriddenIn]; done) | (refine plainFor_of_name ?_; decide +kernel) | decide +kernel
set_option maxRecDepth 65536 in
set_option maxHeartbeats 40000000 in
theorem mLaw (l : Launch) (Z : State) (n0 : Nat) (a0 : Array Value) (hw : ∀ d ∈ tables_1, d.before a0 Z = true) (u : Lst) (cs : Int32) (hcs : ¬ cs = 0) (hst : Sta Z Z.heap "java/lang/String" "COMPACT_STRINGS" "Z" (.int cs)) (va vb vc vd md : Int32) (hU0 : own_HU Z u []) : Sp l Z n0 u x code maxLocals ret room_1 [(.int va), (.int vb), (.int vc), (.int vd), (.int md)] [] (fun w v σ' => v = some (.int 1)) := by
  refine Sp.of (ls := #[.val (.int va), .val (.int vb), .val (.int vc), .val (.int vd), .val (.int md), .unset, .unset, .unset, .unset, .unset, .unset]) pn_mLaw (fun m => by first | (simp [entryFrame, mkF, argsToLocals, Value.category, maxLocals]; done) | rfl) ?_
  show W _ _ _ (x.cls, x.name, code, maxLocals, ret, u) _ _ 0 0 [] 0 #[.val (.int va), .val (.int vb), .val (.int vc), .val (.int vd), .val (.int md), .unset, .unset, .unset, .unset, .unset, .unset] []
  refine W.iload at_0 (pc' := 2) rfl rfl ?_
  refine W.iconst (1 : Int32) at_2 (pc' := 3) rfl rfl ?_
  refine W.iand at_3 (pc' := 4) rfl ?_
  have j_s2 : ∀ (s2 : Int32) (_ : s2 = (if (md &&& (1 : Int32)) = 0 then vc else va)), W l Z n0 (x.cls, x.name, code, maxLocals, ret, u) room_1 (fun w v σ' => v = some (.int 1)) 0 0 [] 12 #[.val (.int va), .val (.int vb), .val (.int vc), .val (.int vd), .val (.int md), .unset, .unset, .unset, .unset, .unset, .unset] [(.int s2)] := by
    intro s2 h_s2
    refine W.istore #[.val (.int va), .val (.int vb), .val (.int vc), .val (.int vd), .val (.int md), .val (.int s2), .unset, .unset, .unset, .unset, .unset] at_12 (pc' := 14) rfl rfl ?_
    refine W.iload at_14 (pc' := 16) rfl rfl ?_
    refine W.iconst (2 : Int32) at_16 (pc' := 17) rfl rfl ?_
    refine W.iand at_17 (pc' := 18) rfl ?_
    have j_n2 : ∀ (n2 : Int32) (_ : n2 = (if (md &&& (2 : Int32)) = 0 then vd else vb)), W l Z n0 (x.cls, x.name, code, maxLocals, ret, u) room_1 (fun w v σ' => v = some (.int 1)) 0 0 [] 26 #[.val (.int va), .val (.int vb), .val (.int vc), .val (.int vd), .val (.int md), .val (.int s2), .unset, .unset, .unset, .unset, .unset] [(.int n2)] := by
      intro n2 h_n2
      refine W.istore #[.val (.int va), .val (.int vb), .val (.int vc), .val (.int vd), .val (.int md), .val (.int s2), .val (.int n2), .unset, .unset, .unset, .unset] at_26 (pc' := 28) rfl rfl ?_
      refine W.new [("com/example/lost_update_guard/lostupdateguard/Cascades$Table", "schema", "Ljava/lang/String;", .null), ("com/example/lost_update_guard/lostupdateguard/Cascades$Table", "name", "Ljava/lang/String;", .null)] at_28 (wd hw 0 rfl) (wd hw 1 rfl) (wd hw 2 rfl) ⟨⟨Or.inr (wd hw 51 rfl), (.object "java/lang/String"), by decide, rfl⟩, ⟨Or.inr (wd hw 54 rfl), (.object "java/lang/String"), by decide, rfl⟩, trivial⟩ (by decide) (by decide) (by decide) (pc' := 31) rfl ?_
      intro t1
      show W _ _ _ (x.cls, x.name, code, maxLocals, ret, u) _ _ 1 2 [(t1, (own_Tab Z .null .null))] 31 #[.val (.int va), .val (.int vb), .val (.int vc), .val (.int vd), .val (.int md), .val (.int s2), .val (.int n2), .unset, .unset, .unset, .unset] [(.ref t1)]
      refine W.dup at_31 (pc' := 32) rfl rfl ?_
      refine W.iloadN at_32 (pc' := 33) rfl rfl ?_
      refine W.callS (mStr l Z n0 a0 hw u cs hcs hst [(t1, own_Tab Z .null .null)] [] (by simp) va hU0) at_33 (wd hw 3 rfl) (wd hw 4 rfl) (wd hw 5 rfl) (wd hw 6 rfl) (by decide) pd8 rfl rfl (Nat.le_of_ble_eq_true rfl) (Nat.le_of_ble_eq_true rfl) (Nat.le_of_ble_eq_true rfl) (Nat.le_of_ble_eq_true rfl) rfl (pc' := 36) rfl ?_
      rintro w1 _ _ ⟨q1, b1, E1, rfl, rfl, hR1, hU1⟩
      show W _ _ _ (x.cls, x.name, code, maxLocals, ret, w1) _ _ 5 12 ((q1, (own_Str Z (.ref b1) (.int (0 : Int32)))) :: (E1 ++ [(t1, own_Tab Z .null .null)])) 36 #[.val (.int va), .val (.int vb), .val (.int vc), .val (.int vd), .val (.int md), .val (.int s2), .val (.int n2), .unset, .unset, .unset, .unset] [(.ref q1), (.ref t1), (.ref t1)]
      refine W.iloadN at_36 (pc' := 37) rfl rfl ?_
      refine W.callS (mStr l Z n0 a0 hw w1 cs hcs hst ((q1, (own_Str Z (.ref b1) (.int (0 : Int32)))) :: (E1 ++ [(t1, own_Tab Z .null .null)])) ((q1, (own_Str Z (.ref b1) (.int (0 : Int32)))) :: (E1 ++ [])) own_in1 vb (hU1.mono (fun _ h => List.mem_cons_of_mem _ h))) at_37 (wd hw 3 rfl) (wd hw 4 rfl) (wd hw 5 rfl) (wd hw 6 rfl) (by decide) pd8 rfl rfl (Nat.le_of_ble_eq_true rfl) (Nat.le_of_ble_eq_true rfl) (Nat.le_of_ble_eq_true rfl) (Nat.le_of_ble_eq_true rfl) rfl (pc' := 40) rfl ?_
      rintro w2 _ _ ⟨q2, b2, E2, rfl, rfl, hR2, hU2⟩
      show W _ _ _ (x.cls, x.name, code, maxLocals, ret, w2) _ _ 9 22 ((q2, (own_Str Z (.ref b2) (.int (0 : Int32)))) :: (E2 ++ ((q1, (own_Str Z (.ref b1) (.int (0 : Int32)))) :: (E1 ++ [(t1, own_Tab Z .null .null)])))) 40 #[.val (.int va), .val (.int vb), .val (.int vc), .val (.int vd), .val (.int md), .val (.int s2), .val (.int n2), .unset, .unset, .unset, .unset] [(.ref q2), (.ref q1), (.ref t1), (.ref t1)]
      refine W.mid (z := (t1, own_Tab Z .null .null)) ((q2, (own_Str Z (.ref b2) (.int (0 : Int32)))) :: (E2 ++ (q1, (own_Str Z (.ref b1) (.int (0 : Int32)))) :: E1)) [] (by simp) ?_
      intro τ3 h_τ3
      have hT1 : own_T Z τ3 q1 (own_txt va) := ⟨b1, by subst h_τ3; simp, hR1.mono (by subst h_τ3; exact own_in2), own_len4 va⟩
      have hT2 : own_T Z τ3 q2 (own_txt vb) := ⟨b2, by subst h_τ3; simp, hR2.mono (by subst h_τ3; exact own_in3), own_len4 vb⟩
      have hU3 : own_HU Z w2 τ3 := hU2.mono (by subst h_τ3; exact own_in3)
      show W _ _ _ (x.cls, x.name, code, maxLocals, ret, w2) _ _ 9 22 ((t1, (own_Tab Z .null .null)) :: τ3) 40 #[.val (.int va), .val (.int vb), .val (.int vc), .val (.int vd), .val (.int md), .val (.int s2), .val (.int n2), .unset, .unset, .unset, .unset] [(.ref q2), (.ref q1), (.ref t1), (.ref t1)]
      refine W.callI (mTI l Z n0 a0 hw w2 τ3 t1 q1 q2 b1 b2 (by subst h_τ3; simp) (by subst h_τ3; simp)) at_40 rfl (wd hw 40 rfl) (wd hw 41 rfl) (wd hw 2 rfl) (wd hw 42 rfl) (by decide) pd9 rfl rfl (Nat.le_of_ble_eq_true rfl) (Nat.le_of_ble_eq_true rfl) (Nat.le_of_ble_eq_true rfl) (Nat.le_of_ble_eq_true rfl) rfl (pc' := 43) rfl ?_
      rintro w9 v9 s9 ⟨rfl, rfl, rfl⟩
      show W _ _ _ (x.cls, x.name, code, maxLocals, ret, w2) _ _ 13 70 ((t1, (own_Tab Z (.ref q1) (.ref q2))) :: τ3) 43 #[.val (.int va), .val (.int vb), .val (.int vc), .val (.int vd), .val (.int md), .val (.int s2), .val (.int n2), .unset, .unset, .unset, .unset] [(.ref t1)]
      refine W.gen (fun τ => own_TT Z τ t1 (own_txt va) (own_txt vb) ∧ own_HU Z w2 τ) ⟨⟨q1, q2, List.mem_cons_self .., hT1.mono (fun _ h => List.mem_cons_of_mem _ h), hT2.mono (fun _ h => List.mem_cons_of_mem _ h)⟩, hU3.mono (fun _ h => List.mem_cons_of_mem _ h)⟩ ?_
      rintro τ4 ⟨K1, hU4⟩
      obtain ⟨r1, r2, hm1, -, -⟩ := id K1
      show W _ _ _ (x.cls, x.name, code, maxLocals, ret, w2) _ _ 13 70 (τ4) 43 #[.val (.int va), .val (.int vb), .val (.int vc), .val (.int vd), .val (.int md), .val (.int s2), .val (.int n2), .unset, .unset, .unset, .unset] [(.ref t1)]
      refine W.astore #[.val (.int va), .val (.int vb), .val (.int vc), .val (.int vd), .val (.int md), .val (.int s2), .val (.int n2), .val (.ref t1), .unset, .unset, .unset] at_43 (pc' := 45) rfl rfl rfl ?_
      refine W.iload at_45 (pc' := 47) rfl rfl ?_
      refine W.iconst (2 : Int32) at_47 (pc' := 48) rfl rfl ?_
      refine W.iushr at_48 (pc' := 49) rfl ?_
      refine W.iconst (3 : Int32) at_49 (pc' := 50) rfl rfl ?_
      refine W.iand at_50 (pc' := 51) rfl ?_
      refine W.istore #[.val (.int va), .val (.int vb), .val (.int vc), .val (.int vd), .val (.int md), .val (.int s2), .val (.int n2), .val (.ref t1), .val (.int ((XT.ushr md (2 : Int32)) &&& (3 : Int32))), .unset, .unset] at_51 (pc' := 53) rfl rfl ?_
      refine W.iload at_53 (pc' := 55) rfl rfl ?_
      refine W.iconst (1 : Int32) at_55 (pc' := 56) rfl rfl ?_
      by_cases k1 : ((XT.ushr md (2 : Int32)) &&& (3 : Int32)) = (1 : Int32)
      · refine W.icmpN at_56 (XT.ii_ne_f k1) (pc' := 59) rfl ?_
        refine W.aload at_59 (pc' := 61) rfl rfl rfl ?_
        refine W.aload at_61 (pc' := 63) rfl rfl rfl ?_
        refine W.callVM hm1 (mTE l Z n0 a0 hw w2 cs hcs hst τ4 t1 t1 (own_txt va) (own_txt vb) (own_txt va) (own_txt vb) K1 K1) at_63 (wd hw 58 rfl) (wd hw 59 rfl) (wd hw 61 rfl) (wd hw 60 rfl) (wd hw 2 rfl) (wd hw 62 rfl) rfl (by decide) pd7 rfl rfl (Nat.le_of_ble_eq_true rfl) (Nat.le_of_ble_eq_true rfl) (Nat.le_of_ble_eq_true rfl) (Nat.le_of_ble_eq_true rfl) rfl (pc' := 66) rfl ?_
        rintro w9 v9 s9 ⟨rfl, rfl, e9⟩
        obtain rfl := e9.symm
        show W _ _ _ (x.cls, x.name, code, maxLocals, ret, w2) _ _ 13 70 (τ4) 66 #[.val (.int va), .val (.int vb), .val (.int vc), .val (.int vd), .val (.int md), .val (.int s2), .val (.int n2), .val (.ref t1), .val (.int ((XT.ushr md (2 : Int32)) &&& (3 : Int32))), .unset, .unset] [(.int (if own_txt va = own_txt va ∧ own_txt vb = own_txt vb then 1 else 0))]
        refine W.topI (1 : Int32) (if_pos ⟨rfl, rfl⟩) ?_
        exact W.retN (t := .boolean) 1 at_66 rfl (by simp) (by decide) (by decide) (by decide) rfl
      · refine W.icmpY at_56 (XT.ii_ne_t k1) (by decide) (pc' := 67) rfl ?_
        refine W.iload at_67 (pc' := 69) rfl rfl ?_
        refine W.iconst (2 : Int32) at_69 (pc' := 70) rfl rfl ?_
        by_cases k2 : ((XT.ushr md (2 : Int32)) &&& (3 : Int32)) = (2 : Int32)
        · refine W.icmpN at_70 (XT.ii_ne_f k2) (pc' := 73) rfl ?_
          refine W.aload at_73 (pc' := 75) rfl rfl rfl ?_
          refine W.aconstNull at_75 (pc' := 76) rfl ?_
          refine W.callVM hm1 (mTE_n l Z n0 a0 hw w2 τ4 t1) at_76 (wd hw 58 rfl) (wd hw 59 rfl) (wd hw 61 rfl) (wd hw 60 rfl) (wd hw 2 rfl) (wd hw 62 rfl) rfl (by decide) pd7 rfl rfl (Nat.le_of_ble_eq_true rfl) (Nat.le_of_ble_eq_true rfl) (Nat.le_of_ble_eq_true rfl) (Nat.le_of_ble_eq_true rfl) rfl (pc' := 79) rfl ?_
          rintro w9 v9 s9 ⟨rfl, rfl, e9⟩
          obtain rfl := e9.symm
          show W _ _ _ (x.cls, x.name, code, maxLocals, ret, w2) _ _ 13 70 (τ4) 79 #[.val (.int va), .val (.int vb), .val (.int vc), .val (.int vd), .val (.int md), .val (.int s2), .val (.int n2), .val (.ref t1), .val (.int ((XT.ushr md (2 : Int32)) &&& (3 : Int32))), .unset, .unset] [(.int (0 : Int32))]
          refine W.ifN at_79 (by decide) (pc' := 82) rfl ?_
          refine W.iconst (1 : Int32) at_82 (pc' := 83) rfl rfl ?_
          refine W.goto at_83 (pc' := 87) (by decide) rfl ?_
          exact W.retN (t := .boolean) 1 at_87 rfl (by simp) (by decide) (by decide) (by decide) rfl
        · refine W.icmpY at_70 (XT.ii_ne_t k2) (by decide) (pc' := 88) rfl ?_
          refine W.iload at_88 (pc' := 90) rfl rfl ?_
          refine W.iconst (3 : Int32) at_90 (pc' := 91) rfl rfl ?_
          by_cases k3 : ((XT.ushr md (2 : Int32)) &&& (3 : Int32)) = (3 : Int32)
          · refine W.icmpN at_91 (XT.ii_ne_f k3) (pc' := 94) rfl ?_
            refine W.aload at_94 (pc' := 96) rfl rfl rfl ?_
            refine W.iloadN at_96 (pc' := 97) rfl rfl ?_
            refine W.callS (mStr l Z n0 a0 hw w2 cs hcs hst τ4 τ4 (fun _ h => h) va hU4) at_97 (wd hw 3 rfl) (wd hw 4 rfl) (wd hw 5 rfl) (wd hw 6 rfl) (by decide) pd8 rfl rfl (Nat.le_of_ble_eq_true rfl) (Nat.le_of_ble_eq_true rfl) (Nat.le_of_ble_eq_true rfl) (Nat.le_of_ble_eq_true rfl) rfl (pc' := 100) rfl ?_
            rintro w3 _ _ ⟨q3, b3, E3, rfl, rfl, hR3, hU5⟩
            show W _ _ _ (x.cls, x.name, code, maxLocals, ret, w3) _ _ 17 80 ((q3, (own_Str Z (.ref b3) (.int (0 : Int32)))) :: (E3 ++ τ4)) 100 #[.val (.int va), .val (.int vb), .val (.int vc), .val (.int vd), .val (.int md), .val (.int s2), .val (.int n2), .val (.ref t1), .val (.int ((XT.ushr md (2 : Int32)) &&& (3 : Int32))), .unset, .unset] [(.ref q3), (.ref t1)]
            refine W.callVM (List.mem_cons_of_mem _ (List.mem_append_right _ hm1)) (mTE_s l Z n0 a0 hw w3 _ t1 q3 b3 (List.mem_cons_self ..)) at_100 (wd hw 58 rfl) (wd hw 59 rfl) (wd hw 61 rfl) (wd hw 60 rfl) (wd hw 2 rfl) (wd hw 62 rfl) rfl (by decide) pd7 rfl rfl (Nat.le_of_ble_eq_true rfl) (Nat.le_of_ble_eq_true rfl) (Nat.le_of_ble_eq_true rfl) (Nat.le_of_ble_eq_true rfl) rfl (pc' := 103) rfl ?_
            rintro w9 v9 s9 ⟨rfl, rfl, e9⟩
            obtain rfl := e9.symm
            show W _ _ _ (x.cls, x.name, code, maxLocals, ret, w3) _ _ 17 80 ((q3, (own_Str Z (.ref b3) (.int (0 : Int32)))) :: (E3 ++ τ4)) 103 #[.val (.int va), .val (.int vb), .val (.int vc), .val (.int vd), .val (.int md), .val (.int s2), .val (.int n2), .val (.ref t1), .val (.int ((XT.ushr md (2 : Int32)) &&& (3 : Int32))), .unset, .unset] [(.int (0 : Int32))]
            refine W.ifN at_103 (by decide) (pc' := 106) rfl ?_
            refine W.iconst (1 : Int32) at_106 (pc' := 107) rfl rfl ?_
            refine W.goto at_107 (pc' := 111) (by decide) rfl ?_
            exact W.retN (t := .boolean) 1 at_111 rfl (by simp) (by decide) (by decide) (by decide) rfl
          · refine W.icmpY at_91 (XT.ii_ne_t k3) (by decide) (pc' := 112) rfl ?_
            refine W.new [("com/example/lost_update_guard/lostupdateguard/Cascades$Table", "schema", "Ljava/lang/String;", .null), ("com/example/lost_update_guard/lostupdateguard/Cascades$Table", "name", "Ljava/lang/String;", .null)] at_112 (wd hw 0 rfl) (wd hw 1 rfl) (wd hw 2 rfl) ⟨⟨Or.inr (wd hw 51 rfl), (.object "java/lang/String"), by decide, rfl⟩, ⟨Or.inr (wd hw 54 rfl), (.object "java/lang/String"), by decide, rfl⟩, trivial⟩ (by decide) (by decide) (by decide) (pc' := 115) rfl ?_
            intro t2
            show W _ _ _ (x.cls, x.name, code, maxLocals, ret, w2) _ _ 14 72 ((t2, (own_Tab Z .null .null)) :: τ4) 115 #[.val (.int va), .val (.int vb), .val (.int vc), .val (.int vd), .val (.int md), .val (.int s2), .val (.int n2), .val (.ref t1), .val (.int ((XT.ushr md (2 : Int32)) &&& (3 : Int32))), .unset, .unset] [(.ref t2)]
            refine W.dup at_115 (pc' := 116) rfl rfl ?_
            refine W.iload at_116 (pc' := 118) rfl rfl ?_
            refine W.callS (mStr l Z n0 a0 hw w2 cs hcs hst ((t2, own_Tab Z .null .null) :: τ4) τ4 (fun _ h => List.mem_cons_of_mem _ h) s2 hU4) at_118 (wd hw 3 rfl) (wd hw 4 rfl) (wd hw 5 rfl) (wd hw 6 rfl) (by decide) pd8 rfl rfl (Nat.le_of_ble_eq_true rfl) (Nat.le_of_ble_eq_true rfl) (Nat.le_of_ble_eq_true rfl) (Nat.le_of_ble_eq_true rfl) rfl (pc' := 121) rfl ?_
            rintro w4 _ _ ⟨p1, c1, E4, rfl, rfl, hR4, hU6⟩
            show W _ _ _ (x.cls, x.name, code, maxLocals, ret, w4) _ _ 18 82 ((p1, (own_Str Z (.ref c1) (.int (0 : Int32)))) :: (E4 ++ ((t2, own_Tab Z .null .null) :: τ4))) 121 #[.val (.int va), .val (.int vb), .val (.int vc), .val (.int vd), .val (.int md), .val (.int s2), .val (.int n2), .val (.ref t1), .val (.int ((XT.ushr md (2 : Int32)) &&& (3 : Int32))), .unset, .unset] [(.ref p1), (.ref t2), (.ref t2)]
            refine W.iload at_121 (pc' := 123) rfl rfl ?_
            refine W.callS (mStr l Z n0 a0 hw w4 cs hcs hst ((p1, (own_Str Z (.ref c1) (.int (0 : Int32)))) :: (E4 ++ ((t2, own_Tab Z .null .null) :: τ4))) ((p1, (own_Str Z (.ref c1) (.int (0 : Int32)))) :: (E4 ++ τ4)) own_in4 n2 (hU6.mono (fun _ h => List.mem_cons_of_mem _ h))) at_123 (wd hw 3 rfl) (wd hw 4 rfl) (wd hw 5 rfl) (wd hw 6 rfl) (by decide) pd8 rfl rfl (Nat.le_of_ble_eq_true rfl) (Nat.le_of_ble_eq_true rfl) (Nat.le_of_ble_eq_true rfl) (Nat.le_of_ble_eq_true rfl) rfl (pc' := 126) rfl ?_
            rintro w5 _ _ ⟨p2, c2, E5, rfl, rfl, hR5, hU7⟩
            show W _ _ _ (x.cls, x.name, code, maxLocals, ret, w5) _ _ 22 92 ((p2, (own_Str Z (.ref c2) (.int (0 : Int32)))) :: (E5 ++ ((p1, (own_Str Z (.ref c1) (.int (0 : Int32)))) :: (E4 ++ ((t2, own_Tab Z .null .null) :: τ4))))) 126 #[.val (.int va), .val (.int vb), .val (.int vc), .val (.int vd), .val (.int md), .val (.int s2), .val (.int n2), .val (.ref t1), .val (.int ((XT.ushr md (2 : Int32)) &&& (3 : Int32))), .unset, .unset] [(.ref p2), (.ref p1), (.ref t2), (.ref t2)]
            refine W.mid (z := (t2, own_Tab Z .null .null)) ((p2, (own_Str Z (.ref c2) (.int (0 : Int32)))) :: (E5 ++ (p1, (own_Str Z (.ref c1) (.int (0 : Int32)))) :: E4)) τ4 (by simp) ?_
            intro τ5 h_τ5
            have hT4 : own_T Z τ5 p1 (own_txt s2) := ⟨c1, by subst h_τ5; simp, hR4.mono (by subst h_τ5; exact own_in5), own_len4 s2⟩
            have hT5 : own_T Z τ5 p2 (own_txt n2) := ⟨c2, by subst h_τ5; simp, hR5.mono (by subst h_τ5; exact own_in6), own_len4 n2⟩
            have hK5 : own_TT Z τ5 t1 (own_txt va) (own_txt vb) := K1.mono (by subst h_τ5; exact fun _ h => List.mem_append_right _ h)
            show W _ _ _ (x.cls, x.name, code, maxLocals, ret, w5) _ _ 22 92 ((t2, (own_Tab Z .null .null)) :: τ5) 126 #[.val (.int va), .val (.int vb), .val (.int vc), .val (.int vd), .val (.int md), .val (.int s2), .val (.int n2), .val (.ref t1), .val (.int ((XT.ushr md (2 : Int32)) &&& (3 : Int32))), .unset, .unset] [(.ref p2), (.ref p1), (.ref t2), (.ref t2)]
            refine W.callI (mTI l Z n0 a0 hw w5 τ5 t2 p1 p2 c1 c2 (by subst h_τ5; simp) (by subst h_τ5; simp)) at_126 rfl (wd hw 40 rfl) (wd hw 41 rfl) (wd hw 2 rfl) (wd hw 42 rfl) (by decide) pd9 rfl rfl (Nat.le_of_ble_eq_true rfl) (Nat.le_of_ble_eq_true rfl) (Nat.le_of_ble_eq_true rfl) (Nat.le_of_ble_eq_true rfl) rfl (pc' := 129) rfl ?_
            rintro w9 v9 s9 ⟨rfl, rfl, rfl⟩
            show W _ _ _ (x.cls, x.name, code, maxLocals, ret, w5) _ _ 26 140 ((t2, (own_Tab Z (.ref p1) (.ref p2))) :: τ5) 129 #[.val (.int va), .val (.int vb), .val (.int vc), .val (.int vd), .val (.int md), .val (.int s2), .val (.int n2), .val (.ref t1), .val (.int ((XT.ushr md (2 : Int32)) &&& (3 : Int32))), .unset, .unset] [(.ref t2)]
            refine W.gen (fun τ => own_TT Z τ t1 (own_txt va) (own_txt vb) ∧ own_TT Z τ t2 (own_txt s2) (own_txt n2)) ⟨hK5.mono (fun _ h => List.mem_cons_of_mem _ h), ⟨p1, p2, List.mem_cons_self .., hT4.mono (fun _ h => List.mem_cons_of_mem _ h), hT5.mono (fun _ h => List.mem_cons_of_mem _ h)⟩⟩ ?_
            rintro τ6 ⟨K3, K4⟩
            obtain ⟨r3, r4, hm3, -, -⟩ := id K3
            obtain ⟨r5, r6, hm4, -, -⟩ := id K4
            show W _ _ _ (x.cls, x.name, code, maxLocals, ret, w5) _ _ 26 140 (τ6) 129 #[.val (.int va), .val (.int vb), .val (.int vc), .val (.int vd), .val (.int md), .val (.int s2), .val (.int n2), .val (.ref t1), .val (.int ((XT.ushr md (2 : Int32)) &&& (3 : Int32))), .unset, .unset] [(.ref t2)]
            refine W.astore #[.val (.int va), .val (.int vb), .val (.int vc), .val (.int vd), .val (.int md), .val (.int s2), .val (.int n2), .val (.ref t1), .val (.int ((XT.ushr md (2 : Int32)) &&& (3 : Int32))), .val (.ref t2), .unset] at_129 (pc' := 131) rfl rfl rfl ?_
            refine W.iloadN at_131 (pc' := 132) rfl rfl ?_
            refine W.iload at_132 (pc' := 134) rfl rfl ?_
            refine W.callS (mST l Z n0 a0 hw w5 τ6 va s2) at_134 (wd hw 55 rfl) (wd hw 56 rfl) (wd hw 5 rfl) (wd hw 57 rfl) (by decide) pd10 rfl rfl (Nat.le_of_ble_eq_true rfl) (Nat.le_of_ble_eq_true rfl) (Nat.le_of_ble_eq_true rfl) (Nat.le_of_ble_eq_true rfl) rfl (pc' := 137) rfl ?_
            rintro w9 v9 s9 ⟨rfl, rfl, e9⟩
            obtain rfl := e9.symm
            show W _ _ _ (x.cls, x.name, code, maxLocals, ret, w5) _ _ 26 140 (τ6) 137 #[.val (.int va), .val (.int vb), .val (.int vc), .val (.int vd), .val (.int md), .val (.int s2), .val (.int n2), .val (.ref t1), .val (.int ((XT.ushr md (2 : Int32)) &&& (3 : Int32))), .val (.ref t2), .unset] [(.int (if own_txt va = own_txt s2 then 1 else 0))]
            have j_e : ∀ (ez : Int32) (_ : ez = (if own_txt va = own_txt s2 ∧ own_txt vb = own_txt n2 then 1 else 0)), W l Z n0 (x.cls, x.name, code, maxLocals, ret, w5) room_1 (fun w v σ' => v = some (.int 1)) 26 140 (τ6) 154 #[.val (.int va), .val (.int vb), .val (.int vc), .val (.int vd), .val (.int md), .val (.int s2), .val (.int n2), .val (.ref t1), .val (.int ((XT.ushr md (2 : Int32)) &&& (3 : Int32))), .val (.ref t2), .unset] [(.int ez)] := by
              intro ez h_ez
              refine W.istore #[.val (.int va), .val (.int vb), .val (.int vc), .val (.int vd), .val (.int md), .val (.int s2), .val (.int n2), .val (.ref t1), .val (.int ((XT.ushr md (2 : Int32)) &&& (3 : Int32))), .val (.ref t2), .val (.int ez)] at_154 (pc' := 156) rfl rfl ?_
              refine W.aload at_156 (pc' := 158) rfl rfl rfl ?_
              refine W.aload at_158 (pc' := 160) rfl rfl rfl ?_
              refine W.callVM hm3 (mTE l Z n0 a0 hw w5 cs hcs hst τ6 t1 t2 (own_txt va) (own_txt vb) (own_txt s2) (own_txt n2) K3 K4) at_160 (wd hw 58 rfl) (wd hw 59 rfl) (wd hw 61 rfl) (wd hw 60 rfl) (wd hw 2 rfl) (wd hw 62 rfl) rfl (by decide) pd7 rfl rfl (Nat.le_of_ble_eq_true rfl) (Nat.le_of_ble_eq_true rfl) (Nat.le_of_ble_eq_true rfl) (Nat.le_of_ble_eq_true rfl) rfl (pc' := 163) rfl ?_
              rintro w9 v9 s9 ⟨rfl, rfl, e9⟩
              obtain rfl := e9.symm
              show W _ _ _ (x.cls, x.name, code, maxLocals, ret, w5) _ _ 26 140 (τ6) 163 #[.val (.int va), .val (.int vb), .val (.int vc), .val (.int vd), .val (.int md), .val (.int s2), .val (.int n2), .val (.ref t1), .val (.int ((XT.ushr md (2 : Int32)) &&& (3 : Int32))), .val (.ref t2), .val (.int ez)] [(.int (if own_txt va = own_txt s2 ∧ own_txt vb = own_txt n2 then 1 else 0))]
              refine W.iload at_163 (pc' := 165) rfl rfl ?_
              refine W.icmpN at_165 (XT.ii_ne_f h_ez.symm) (pc' := 168) rfl ?_
              refine W.aload at_168 (pc' := 170) rfl rfl rfl ?_
              refine W.aload at_170 (pc' := 172) rfl rfl rfl ?_
              refine W.callVM hm4 (mTE l Z n0 a0 hw w5 cs hcs hst τ6 t2 t1 (own_txt s2) (own_txt n2) (own_txt va) (own_txt vb) K4 K3) at_172 (wd hw 58 rfl) (wd hw 59 rfl) (wd hw 61 rfl) (wd hw 60 rfl) (wd hw 2 rfl) (wd hw 62 rfl) rfl (by decide) pd7 rfl rfl (Nat.le_of_ble_eq_true rfl) (Nat.le_of_ble_eq_true rfl) (Nat.le_of_ble_eq_true rfl) (Nat.le_of_ble_eq_true rfl) rfl (pc' := 175) rfl ?_
              rintro w9 v9 s9 ⟨rfl, rfl, e9⟩
              obtain rfl := e9.symm
              show W _ _ _ (x.cls, x.name, code, maxLocals, ret, w5) _ _ 26 140 (τ6) 175 #[.val (.int va), .val (.int vb), .val (.int vc), .val (.int vd), .val (.int md), .val (.int s2), .val (.int n2), .val (.ref t1), .val (.int ((XT.ushr md (2 : Int32)) &&& (3 : Int32))), .val (.ref t2), .val (.int ez)] [(.int (if own_txt s2 = own_txt va ∧ own_txt n2 = own_txt vb then 1 else 0))]
              refine W.topI (if own_txt va = own_txt s2 ∧ own_txt vb = own_txt n2 then 1 else 0) (own_sym _ _ _ _) ?_
              refine W.iload at_175 (pc' := 177) rfl rfl ?_
              refine W.icmpN at_177 (XT.ii_ne_f h_ez.symm) (pc' := 180) rfl ?_
              refine W.iconst (1 : Int32) at_180 (pc' := 181) rfl rfl ?_
              refine W.goto at_181 (pc' := 185) (by decide) rfl ?_
              exact W.retN (t := .boolean) 1 at_185 rfl (by simp) (by decide) (by decide) (by decide) rfl
            by_cases e1 : own_txt va = own_txt s2
            · refine W.ifN at_137 (XT.i0_eq_f (by rw [if_pos e1]; decide)) (pc' := 140) rfl ?_
              refine W.iloadN at_140 (pc' := 141) rfl rfl ?_
              refine W.iload at_141 (pc' := 143) rfl rfl ?_
              refine W.callS (mST l Z n0 a0 hw w5 τ6 vb n2) at_143 (wd hw 55 rfl) (wd hw 56 rfl) (wd hw 5 rfl) (wd hw 57 rfl) (by decide) pd10 rfl rfl (Nat.le_of_ble_eq_true rfl) (Nat.le_of_ble_eq_true rfl) (Nat.le_of_ble_eq_true rfl) (Nat.le_of_ble_eq_true rfl) rfl (pc' := 146) rfl ?_
              rintro w9 v9 s9 ⟨rfl, rfl, e9⟩
              obtain rfl := e9.symm
              show W _ _ _ (x.cls, x.name, code, maxLocals, ret, w5) _ _ 26 140 (τ6) 146 #[.val (.int va), .val (.int vb), .val (.int vc), .val (.int vd), .val (.int md), .val (.int s2), .val (.int n2), .val (.ref t1), .val (.int ((XT.ushr md (2 : Int32)) &&& (3 : Int32))), .val (.ref t2), .unset] [(.int (if own_txt vb = own_txt n2 then 1 else 0))]
              by_cases e2 : own_txt vb = own_txt n2
              · refine W.ifN at_146 (XT.i0_eq_f (by rw [if_pos e2]; decide)) (pc' := 149) rfl ?_
                refine W.iconst (1 : Int32) at_149 (pc' := 150) rfl rfl ?_
                refine W.goto at_150 (pc' := 154) (by decide) rfl ?_
                exact j_e _ (if_pos ⟨e1, e2⟩).symm
              · refine W.ifY at_146 (XT.i0_eq_t (if_neg e2)) (by decide) (pc' := 153) rfl ?_
                refine W.iconst (0 : Int32) at_153 (pc' := 154) rfl rfl ?_
                exact j_e _ (if_neg (fun h => e2 h.2)).symm
            · refine W.ifY at_137 (XT.i0_eq_t (if_neg e1)) (by decide) (pc' := 153) rfl ?_
              refine W.iconst (0 : Int32) at_153 (pc' := 154) rfl rfl ?_
              exact j_e _ (if_neg (fun h => e1 h.1)).symm
    by_cases d2 : (md &&& (2 : Int32)) = 0
    · refine W.ifY at_18 (XT.i0_eq_t d2) (by decide) (pc' := 25) rfl ?_
      refine W.iloadN at_25 (pc' := 26) rfl rfl ?_
      exact j_n2 _ (if_pos d2).symm
    · refine W.ifN at_18 (XT.i0_eq_f d2) (pc' := 21) rfl ?_
      refine W.iloadN at_21 (pc' := 22) rfl rfl ?_
      refine W.goto at_22 (pc' := 26) (by decide) rfl ?_
      exact j_n2 _ (if_neg d2).symm
  by_cases d1 : (md &&& (1 : Int32)) = 0
  · refine W.ifY at_4 (XT.i0_eq_t d1) (by decide) (pc' := 11) rfl ?_
    refine W.iloadN at_11 (pc' := 12) rfl rfl ?_
    exact j_s2 _ (if_pos d1).symm
  · refine W.ifN at_4 (XT.i0_eq_f d1) (pc' := 7) rfl ?_
    refine W.iloadN at_7 (pc' := 8) rfl rfl ?_
    refine W.goto at_8 (pc' := 12) (by decide) rfl ?_
    exact j_s2 _ (if_neg d1).symm
set_option maxRecDepth 65536 in
set_option maxHeartbeats 40000000 in
theorem comes_1 {Post : Tables → Env → Array Value → State → Outcome → State → Prop} (hpost : ∀ tb e args s v u, (limb_1_1.after args s (.returned v) u = true ∧ limb_1_2.after args s (.returned v) u = true ∧ True) → ReturnedEndW s (.returned v) u (Jvm.fieldLocs frame_1_writes args s ++ Jvm.arrayLocs frame_1_arrays args s ++ Jvm.staticLocs frame_1_statics s) 48 3264 → Post tb e args s (.returned v) u) :
    ArmFor flags0 classFile x code maxLocals ret World_1 tables_1 room_1 Calls_1 rest_1 Pre_1 Post := by
  intro l hfl _ _ p en ha hc hk s m args below hf hA hF happ hP
  obtain ⟨hcalls, hrest, hpre⟩ := hP
  obtain ⟨-, -, -, hnamed, -, -, -, hat⟩ := (Spec.applies_iff hf).mp happ
  obtain ⟨hg, hn⟩ := and_e (Cond.before_iff.mp (show (Jvm.Cond.and given_1 narrow_1).before args s = true from hpre))
  obtain ⟨g0, t0⟩ := and_e hg
  obtain ⟨g1, t1⟩ := and_e t0
  obtain ⟨g2, t2⟩ := and_e t1
  obtain ⟨g3, t3⟩ := and_e t2
  obtain ⟨g4, t4⟩ := and_e t3
  obtain ⟨w0, w1, w2, w3, w4, rfl⟩ : ∃ w0 w1 w2 w3 w4 : Value, args = #[w0, w1, w2, w3, w4] := by
    have hs : args.size = 5 := by simpa [Cond.value, given_1] using g0
    obtain ⟨L⟩ := args
    match L, hs with
    | [w0, w1, w2, w3, w4], _ => exact ⟨w0, w1, w2, w3, w4, rfl⟩
  have hw := fun d (hd : d ∈ tables_1) => atoms_spec (ws := Jvm.Cond.code x code maxLocals ret :: tables_1) hat d (List.mem_cons_of_mem _ hd)
  obtain ⟨va, e_va⟩ := is_v g1
  obtain rfl : w0 = (.int va) := Option.some.inj e_va
  obtain ⟨vb, e_vb⟩ := is_v g2
  obtain rfl : w1 = (.int vb) := Option.some.inj e_vb
  obtain ⟨vc, e_vc⟩ := is_v g3
  obtain rfl : w2 = (.int vc) := Option.some.inj e_vc
  obtain ⟨vd, e_vd⟩ := is_v g4
  obtain rfl : w3 = (.int vd) := Option.some.inj e_vd
  obtain ⟨md, e_md⟩ := is_v t4
  obtain rfl : w4 = (.int md) := Option.some.inj e_md
  obtain ⟨hsets, hown0⟩ := atoms_of _ (rest_1_c_eq ▸ (show rest_1_c.before _ s = true from hrest))
  obtain ⟨cs, ecs⟩ := is_v (Cond.before_iff.mp (hsets _ (List.mem_of_getElem? (i := 1) rfl)))
  have hst : Sta s s.heap "java/lang/String" "COMPACT_STRINGS" "Z" (.int cs) := Sta.start ecs (Or.inl (hsets _ (List.mem_of_getElem? (i := 0) rfl)))
  have hcs : ¬ (cs = (0 : Int32)) := gotF (Cond.eq_ints ecs (Term.int_eval (0))) (not_v (Cond.before_iff.mp (hsets _ (List.mem_of_getElem? (i := 2) rfl))))
  obtain ⟨u0, hV0, hU0⟩ := own_start hw (hcalls.1 ("java/lang/String", 7) (List.mem_of_getElem? (i := 2) rfl)) (hsets _ (List.mem_of_getElem? (i := 2) rfl))
  have hsep : Sep s s.heap.size 0 s.heap [] := ⟨⟨Old.start s, Nat.zero_le _⟩, fun _ q => absurd q (List.not_mem_nil), List.nodup_nil⟩
  obtain ⟨n, o, h1, h2, h3, _, L, rfl, ⟨⟨_, _, rfl, -, -⟩, N⟩, hq⟩ := mLaw l s s.heap.size _ hw u0 cs hcs hst va vb vc vd md hU0 tables_1 s.heap hsep p en ha hc hk s m _ below hf ((Spec.applies_iff_loose hf).mp happ).1 ⟨rfl, State.Warmed39.refl s, rfl, hV0⟩ trivial
  refine ⟨n, _, h1, h2, h3, hpost _ _ _ _ _ _ ⟨Cond.after_iff.mpr rfl, Cond.after_iff.mpr (eq_i res_at (Term.int_eval (1)) rfl), trivial⟩ ⟨hq.1, hq.2.1, hq.2.2.1, (hq.2.2.2.sift fun y hy => Or.inr (N y hy)).mono (by decide) (by decide)⟩⟩
theorem main_1_1 : Claimed_1_1 := comes_1 fun _ _ _ _ _ _ h hF => ⟨h.1, hF⟩
theorem main_1_2 : Claimed_1_2 := comes_1 fun _ _ _ _ _ _ h hF => ⟨h.2.1, hF⟩
end Jvm.Pilot.@@N@@
namespace Jvm.Pilot.@@N@@
open Jvm Jvm.ClassFile Sem Op Lib Jvm.Free Jvm.Stand Jvm.Pilot.@@N@@.Jvm.D
/-! MADE BY PROGRAM (witnessworld.py) out of the Statement's table words and the real class files: 21 classes; the members and pool entries that the words name. The judged class is class 1, her method 1. -/
namespace start1
open Jvm.ClassFile
def u (s : String) : CpInfo := .utf8 (stringToUtf16 s)
/-- a pool by its gaps: so many unusable entries, then the entry; so many at the end -/
def gap : Nat → List CpInfo → List CpInfo
  | 0, r => r
  | n + 1, r => .unusable :: gap n r
def poolList (es : List (Nat × CpInfo)) (last : Nat) : List CpInfo := es.foldr (fun e r => gap e.1 (e.2 :: r)) (gap last [])
def pool (es : List (Nat × CpInfo)) (last : Nat) : Array CpInfo := ⟨poolList es last⟩
def fileOf (pool : Array CpInfo) (this : Nat) (attrs : Array Attribute := #[]) (ms : Array MethodInfo := #[]) (fl : Nat := 33) (sup : Nat := 0) (ifs : Array Nat := #[]) (fds : Array FieldInfo := #[]) : ClassFile where
  minorVersion := 0
  majorVersion := 65
  constantPool := pool
  accessFlags := fl
  thisClass := this
  superClass := sup
  interfaces := ifs
  fields := fds
  methods := ms
  attributes := attrs
def plain (name : String) (sup : Option ClassId) : Class where
  name := name
  kind := .ordinary
  loader := none
  accessFlags := 33
  super := sup
  interfaces := #[]
  cf := none
  fields := #[]
  methods := #[]
  instanceTypes := #[]
  staticTypes := #[]
  resolved := #[]
  callSites := []
  init := .initialized
  statics := none
  mirror := none

def pool0 : Array CpInfo := pool [(5, u "<init>"), (0, u "()V"), (1, .class_ 10), (1, u "java/lang/Object")] 113

def k0c0 : Code := { maxStack := 0, maxLocals := 1, code := object_method_1_code, exceptionTable := #[], attributes := #[] }
def k0m0 : Method := { name := "<init>", desc := "()V", sig := { parameters := [], returnType := none }, accessFlags := 1, code := some k0c0 }
/-- java/lang/Object -/
def k0 : Class := { plain "java/lang/Object" none with
  accessFlags := 33
  interfaces := #[]
  cf := some (fileOf pool0 8 #[] #[{ accessFlags := 1, nameIndex := 5, descriptorIndex := 6, attributes := #[] }] 33 0 #[] #[])
  fields := #[]
  methods := #[k0m0]
  instanceTypes := #[]
  staticTypes := #[]
  resolved := Array.replicate 124 none
  statics := none }

def pool1 : Array CpInfo := pool [(2, .class_ 4), (1, u "java/lang/Object"), (0, u "<init>"), (0, u "()V"), (0, .class_ 8), (0, u "com/example/lost_update_guard/lostupdateguard/Cascades$Table"), (0, .methodref 10 11), (0, .class_ 12), (0, .nameAndType 13 14), (0, u "com/example/lost_update_guard/lostupdateguard/TableEqualsPinLaw"), (0, u "str"), (0, u "(I)Ljava/lang/String;"), (0, .methodref 7 16), (0, .nameAndType 5 17), (0, u "(Ljava/lang/String;Ljava/lang/String;)V"), (0, .methodref 7 19), (0, .nameAndType 20 21), (0, u "equals"), (0, u "(Ljava/lang/Object;)Z"), (0, .methodref 10 23), (0, .nameAndType 24 25), (0, u "sameText"), (0, u "(II)Z"), (0, .class_ 27), (0, u "java/lang/String"), (0, .methodref 26 29), (0, .nameAndType 5 30), (0, u "([C)V"), (2, u "law"), (0, u "(IIIII)Z")] 7

def k1m0 : Method := { name := "<init>", desc := "()V", sig := { parameters := [], returnType := none }, accessFlags := 1, code := none }
def k1c1 : Code := { maxStack := 4, maxLocals := 11, code := code, exceptionTable := #[], attributes := #[] }
def k1m1 : Method := { name := "law", desc := "(IIIII)Z", sig := { parameters := [.int, .int, .int, .int, .int], returnType := some .boolean }, accessFlags := 9, code := some k1c1 }
def k1c2 : Code := { maxStack := 6, maxLocals := 5, code := method_3_code, exceptionTable := #[], attributes := #[] }
def k1m2 : Method := { name := "str", desc := "(I)Ljava/lang/String;", sig := { parameters := [.int], returnType := some (.object "java/lang/String") }, accessFlags := 10, code := some k1c2 }
def k1c3 : Code := { maxStack := 3, maxLocals := 6, code := method_4_code, exceptionTable := #[], attributes := #[] }
def k1m3 : Method := { name := "sameText", desc := "(II)Z", sig := { parameters := [.int, .int], returnType := some .boolean }, accessFlags := 10, code := some k1c3 }
/-- com/example/lost_update_guard/lostupdateguard/TableEqualsPinLaw -/
def k1 : Class := { plain "com/example/lost_update_guard/lostupdateguard/TableEqualsPinLaw" (some 0) with
  accessFlags := 49
  interfaces := #[]
  cf := some (fileOf pool1 10 #[] #[{ accessFlags := 1, nameIndex := 5, descriptorIndex := 6, attributes := #[] }, { accessFlags := 9, nameIndex := 33, descriptorIndex := 34, attributes := #[] }, { accessFlags := 10, nameIndex := 13, descriptorIndex := 14, attributes := #[] }, { accessFlags := 10, nameIndex := 24, descriptorIndex := 25, attributes := #[] }] 49 2 #[] #[])
  fields := #[]
  methods := #[k1m0, k1m1, k1m2, k1m3]
  instanceTypes := #[]
  staticTypes := #[]
  resolved := Array.replicate 42 none
  statics := none }

def pool2 : Array CpInfo := pool [(1, .methodref 2 3), (0, .class_ 4), (0, .nameAndType 5 6), (0, u "java/lang/Object"), (0, u "<init>"), (0, u "()V"), (0, .string 8), (0, u "schema"), (0, .methodref 10 11), (0, .class_ 12), (0, .nameAndType 13 14), (0, u "java/util/Objects"), (0, u "requireNonNull"), (0, u "(Ljava/lang/Object;Ljava/lang/String;)Ljava/lang/Object;"), (0, .class_ 16), (0, u "java/lang/String"), (0, .fieldref 18 19), (0, .class_ 20), (0, .nameAndType 8 21), (0, u "com/example/lost_update_guard/lostupdateguard/Cascades$Table"), (0, u "Ljava/lang/String;"), (0, .string 23), (0, u "name"), (0, .fieldref 18 25), (0, .nameAndType 23 21), (10, .methodref 15 37), (0, .nameAndType 38 39), (0, u "equals"), (0, u "(Ljava/lang/Object;)Z"), (4, u "(Ljava/lang/String;Ljava/lang/String;)V"), (12, .class_ 58), (0, u "com/example/lost_update_guard/lostupdateguard/Cascades")] 16

def k2c0 : Code := { maxStack := 3, maxLocals := 3, code := prog_11_method_1_code, exceptionTable := #[], attributes := #[] }
def k2m0 : Method := { name := "<init>", desc := "(Ljava/lang/String;Ljava/lang/String;)V", sig := { parameters := [(.object "java/lang/String"), (.object "java/lang/String")], returnType := none }, accessFlags := 0, code := some k2c0 }
def k2c1 : Code := { maxStack := 2, maxLocals := 3, code := prog_11_method_5_code, exceptionTable := #[], attributes := #[] }
def k2m1 : Method := { name := "equals", desc := "(Ljava/lang/Object;)Z", sig := { parameters := [(.object "java/lang/Object")], returnType := some .boolean }, accessFlags := 1, code := some k2c1 }
/-- com/example/lost_update_guard/lostupdateguard/Cascades$Table -/
def k2 : Class := { plain "com/example/lost_update_guard/lostupdateguard/Cascades$Table" (some 0) with
  accessFlags := 32
  interfaces := #[]
  cf := some (fileOf pool2 18 #[.nestHost 57] #[{ accessFlags := 0, nameIndex := 5, descriptorIndex := 44, attributes := #[] }, { accessFlags := 1, nameIndex := 38, descriptorIndex := 39, attributes := #[] }] 32 2 #[] #[{ accessFlags := 18, nameIndex := 8, descriptorIndex := 21, attributes := #[] }, { accessFlags := 18, nameIndex := 23, descriptorIndex := 21, attributes := #[] }])
  fields := #[{ name := "schema", type := (.object "java/lang/String"), accessFlags := 18, slot := 0, constantValue := 0 }, { name := "name", type := (.object "java/lang/String"), accessFlags := 18, slot := 1, constantValue := 0 }]
  methods := #[k2m0, k2m1]
  instanceTypes := #[(.object "java/lang/String"), (.object "java/lang/String")]
  staticTypes := #[]
  resolved := Array.replicate 75 none
  statics := none }

def pool3 : Array CpInfo := pool [(1, .class_ 2), (0, u "java/io/Serializable"), (0, .class_ 4), (0, u "java/lang/Object")] 2

/-- java/io/Serializable -/
def k3 : Class := { plain "java/io/Serializable" (some 0) with
  accessFlags := 1537
  interfaces := #[]
  cf := some (fileOf pool3 1 #[] #[] 1537 3 #[] #[])
  fields := #[]
  methods := #[]
  instanceTypes := #[]
  staticTypes := #[]
  resolved := Array.replicate 7 none
  statics := none }

def pool4 : Array CpInfo := pool [(1, .class_ 2), (0, u "java/lang/Comparable"), (0, .class_ 4), (0, u "java/lang/Object")] 7

/-- java/lang/Comparable -/
def k4 : Class := { plain "java/lang/Comparable" (some 0) with
  accessFlags := 1537
  interfaces := #[]
  cf := some (fileOf pool4 1 #[] #[] 1537 3 #[] #[])
  fields := #[]
  methods := #[]
  instanceTypes := #[]
  staticTypes := #[]
  resolved := Array.replicate 12 none
  statics := none }

def pool5 : Array CpInfo := pool [(2, .class_ 4), (1, u "java/lang/CharSequence"), (42, .class_ 48), (0, u "java/lang/CharSequence$1CodePointIterator"), (10, .class_ 60), (0, u "java/lang/CharSequence$1CharIterator"), (5, .class_ 67), (0, u "java/lang/Object")] 63

/-- java/lang/CharSequence -/
def k5 : Class := { plain "java/lang/CharSequence" (some 0) with
  accessFlags := 1537
  interfaces := #[]
  cf := some (fileOf pool5 2 #[.nestMembers #[47, 59]] #[] 1537 66 #[] #[])
  fields := #[]
  methods := #[]
  instanceTypes := #[]
  staticTypes := #[]
  resolved := Array.replicate 131 none
  statics := none }

def pool6 : Array CpInfo := pool [(1, .class_ 2), (0, u "java/lang/constant/Constable"), (0, .class_ 4), (0, u "java/lang/Object")] 6

/-- java/lang/constant/Constable -/
def k6 : Class := { plain "java/lang/constant/Constable" (some 0) with
  accessFlags := 1537
  interfaces := #[]
  cf := some (fileOf pool6 1 #[] #[] 1537 3 #[] #[])
  fields := #[]
  methods := #[]
  instanceTypes := #[]
  staticTypes := #[]
  resolved := Array.replicate 11 none
  statics := none }

def pool7 : Array CpInfo := pool [(1, .class_ 2), (0, u "java/lang/constant/ConstantDesc"), (0, .class_ 4), (0, u "java/lang/Object")] 32

/-- java/lang/constant/ConstantDesc -/
def k7 : Class := { plain "java/lang/constant/ConstantDesc" (some 0) with
  accessFlags := 1537
  interfaces := #[]
  cf := some (fileOf pool7 1 #[] #[] 1537 3 #[] #[])
  fields := #[]
  methods := #[]
  instanceTypes := #[]
  staticTypes := #[]
  resolved := Array.replicate 37 none
  statics := none }

def pool8 : Array CpInfo := pool [(1, .methodref 2 3), (0, .class_ 4), (0, .nameAndType 5 6), (0, u "java/lang/Object"), (0, u "<init>"), (0, u "()V"), (0, .string 8), (0, u ""), (0, .fieldref 10 11), (0, .class_ 12), (0, .nameAndType 13 14), (0, u "java/lang/String"), (0, u "value"), (0, u "[B"), (0, .fieldref 10 16), (0, .nameAndType 17 18), (0, u "coder"), (0, u "B"), (2, u "hash"), (0, u "I"), (2, u "hashIsZero"), (0, u "Z"), (0, .methodref 10 28), (0, .nameAndType 5 29), (0, u "([CIILjava/lang/Void;)V"), (8, .fieldref 10 39), (0, .nameAndType 40 26), (0, u "COMPACT_STRINGS"), (1, .class_ 44), (1, u "java/lang/StringUTF16"), (0, u "compress"), (1, .methodref 42 48), (0, .nameAndType 49 50), (0, u "coderFromArrayLen"), (0, u "([BI)B"), (56, .class_ 109), (1, u "java/lang/StringLatin1"), (67, .methodref 42 178), (0, .nameAndType 45 179), (0, u "([CII)[B"), (361, .methodref 107 542), (0, .nameAndType 543 544), (0, u "equals"), (0, u "([B[B)Z"), (28, u "(Ljava/lang/Object;)Z"), (1, .class_ 576), (0, u "java/lang/CharSequence"), (22, u "CASE_INSENSITIVE_ORDER"), (0, u "Ljava/util/Comparator;"), (409, u "([C)V"), (90, u "serialPersistentFields"), (0, u "[Ljava/io/ObjectStreamField;"), (0, .class_ 1104), (0, u "java/lang/String$CaseInsensitiveComparator"), (1, .class_ 1107), (0, u "java/io/Serializable"), (0, .class_ 1109), (0, u "java/lang/Comparable"), (0, .class_ 1111), (0, u "java/lang/constant/Constable"), (0, .class_ 1113), (0, u "java/lang/constant/ConstantDesc"), (2, u "serialVersionUID"), (0, u "J"), (3, u "REPL"), (0, u "C"), (2, u "LATIN1"), (1, u "UTF16")] 323

def k8m0 : Method := { name := "<init>", desc := "()V", sig := { parameters := [], returnType := none }, accessFlags := 1, code := none }
def k8c1 : Code := { maxStack := 5, maxLocals := 2, code := jdk_42_method_3_code, exceptionTable := #[], attributes := #[] }
def k8m1 : Method := { name := "<init>", desc := "([C)V", sig := { parameters := [(.array .char)], returnType := none }, accessFlags := 1, code := some k8c1 }
def k8c2 : Code := { maxStack := 2, maxLocals := 3, code := jdk_42_method_66_code, exceptionTable := #[], attributes := #[] }
def k8m2 : Method := { name := "equals", desc := "(Ljava/lang/Object;)Z", sig := { parameters := [(.object "java/lang/Object")], returnType := some .boolean }, accessFlags := 1, code := some k8c2 }
def k8c3 : Code := { maxStack := 4, maxLocals := 6, code := jdk_42_method_149_code, exceptionTable := #[], attributes := #[] }
def k8m3 : Method := { name := "<init>", desc := "([CIILjava/lang/Void;)V", sig := { parameters := [(.array .char), .int, .int, (.object "java/lang/Void")], returnType := none }, accessFlags := 2, code := some k8c3 }
/-- java/lang/String -/
def k8 : Class := { plain "java/lang/String" (some 0) with
  accessFlags := 49
  interfaces := #[3, 4, 5, 6, 7]
  cf := some (fileOf pool8 10 #[.nestMembers #[1103]] #[{ accessFlags := 1, nameIndex := 5, descriptorIndex := 6, attributes := #[] }, { accessFlags := 1, nameIndex := 5, descriptorIndex := 1010, attributes := #[] }, { accessFlags := 1, nameIndex := 543, descriptorIndex := 573, attributes := #[] }, { accessFlags := 2, nameIndex := 5, descriptorIndex := 29, attributes := #[] }] 49 2 #[1106, 1108, 575, 1110, 1112] #[{ accessFlags := 18, nameIndex := 13, descriptorIndex := 14, attributes := #[] }, { accessFlags := 18, nameIndex := 17, descriptorIndex := 18, attributes := #[] }, { accessFlags := 2, nameIndex := 21, descriptorIndex := 22, attributes := #[] }, { accessFlags := 2, nameIndex := 25, descriptorIndex := 26, attributes := #[] }, { accessFlags := 26, nameIndex := 1116, descriptorIndex := 1117, attributes := #[] }, { accessFlags := 24, nameIndex := 40, descriptorIndex := 26, attributes := #[] }, { accessFlags := 26, nameIndex := 1101, descriptorIndex := 1102, attributes := #[] }, { accessFlags := 26, nameIndex := 1121, descriptorIndex := 1122, attributes := #[] }, { accessFlags := 25, nameIndex := 599, descriptorIndex := 600, attributes := #[] }, { accessFlags := 24, nameIndex := 1125, descriptorIndex := 18, attributes := #[] }, { accessFlags := 24, nameIndex := 1127, descriptorIndex := 18, attributes := #[] }])
  fields := #[{ name := "value", type := (.array .byte), accessFlags := 18, slot := 0, constantValue := 0 }, { name := "coder", type := .byte, accessFlags := 18, slot := 1, constantValue := 0 }, { name := "hash", type := .int, accessFlags := 2, slot := 2, constantValue := 0 }, { name := "hashIsZero", type := .boolean, accessFlags := 2, slot := 3, constantValue := 0 }, { name := "serialVersionUID", type := .long, accessFlags := 26, slot := 0, constantValue := 0 }, { name := "COMPACT_STRINGS", type := .boolean, accessFlags := 24, slot := 1, constantValue := 0 }, { name := "serialPersistentFields", type := (.array (.object "java/io/ObjectStreamField")), accessFlags := 26, slot := 2, constantValue := 0 }, { name := "REPL", type := .char, accessFlags := 26, slot := 3, constantValue := 0 }, { name := "CASE_INSENSITIVE_ORDER", type := (.object "java/util/Comparator"), accessFlags := 25, slot := 4, constantValue := 0 }, { name := "LATIN1", type := .byte, accessFlags := 24, slot := 5, constantValue := 0 }, { name := "UTF16", type := .byte, accessFlags := 24, slot := 6, constantValue := 0 }]
  methods := #[k8m0, k8m1, k8m2, k8m3]
  instanceTypes := #[(.array .byte), .byte, .int, .boolean]
  staticTypes := #[.long, .boolean, (.array (.object "java/io/ObjectStreamField")), .char, (.object "java/util/Comparator"), .byte, .byte]
  resolved := Array.replicate 1451 none
  statics := some 0 }

def pool9 : Array CpInfo := pool [(6, .class_ 8), (1, u "java/lang/Object"), (0, u "<init>"), (0, u "()V"), (1, .class_ 14), (1, u "java/lang/StringUTF16"), (31, u "$assertionsDisabled"), (0, u "Z"), (13, u "HI_BYTE_SHIFT"), (0, u "I"), (2, u "LO_BYTE_SHIFT"), (49, .methodref 12 116), (0, .nameAndType 117 118), (0, u "compress"), (0, u "([CI[BII)I"), (3, u "([CII)[B"), (138, u "coderFromArrayLen"), (0, u "([BI)B"), (106, .class_ 371), (1, u "java/lang/StringUTF16$LinesSpliterator"), (58, u "MAX_LENGTH"), (196, .class_ 628), (0, u "java/lang/StringUTF16$CodePointsSpliterator"), (0, .class_ 630), (0, u "java/lang/StringUTF16$CharsSpliterator")] 4

def k9m0 : Method := { name := "<init>", desc := "()V", sig := { parameters := [], returnType := none }, accessFlags := 0, code := none }
def k9c1 : Code := { maxStack := 2, maxLocals := 2, code := jdk_52_method_15_code, exceptionTable := #[], attributes := #[] }
def k9m1 : Method := { name := "coderFromArrayLen", desc := "([BI)B", sig := { parameters := [(.array .byte), .int], returnType := some .byte }, accessFlags := 8, code := some k9c1 }
def k9c2 : Code := { maxStack := 5, maxLocals := 6, code := jdk_52_method_16_code, exceptionTable := #[], attributes := #[] }
def k9m2 : Method := { name := "compress", desc := "([CII)[B", sig := { parameters := [(.array .char), .int, .int], returnType := some (.array .byte) }, accessFlags := 9, code := some k9c2 }
def k9c3 : Code := { maxStack := 3, maxLocals := 7, code := jdk_52_method_21_code, exceptionTable := #[], attributes := #[] }
def k9m3 : Method := { name := "compress", desc := "([CI[BII)I", sig := { parameters := [(.array .char), .int, (.array .byte), .int, .int], returnType := some .int }, accessFlags := 9, code := some k9c3 }
/-- java/lang/StringUTF16 -/
def k9 : Class := { plain "java/lang/StringUTF16" (some 0) with
  accessFlags := 48
  interfaces := #[]
  cf := some (fileOf pool9 12 #[.nestMembers #[627, 629, 369]] #[{ accessFlags := 0, nameIndex := 9, descriptorIndex := 10, attributes := #[] }, { accessFlags := 8, nameIndex := 261, descriptorIndex := 262, attributes := #[] }, { accessFlags := 9, nameIndex := 117, descriptorIndex := 122, attributes := #[] }, { accessFlags := 9, nameIndex := 117, descriptorIndex := 118, attributes := #[] }] 48 6 #[] #[{ accessFlags := 26, nameIndex := 61, descriptorIndex := 62, attributes := #[] }, { accessFlags := 26, nameIndex := 65, descriptorIndex := 62, attributes := #[] }, { accessFlags := 24, nameIndex := 430, descriptorIndex := 62, attributes := #[] }, { accessFlags := 4120, nameIndex := 46, descriptorIndex := 47, attributes := #[] }])
  fields := #[{ name := "HI_BYTE_SHIFT", type := .int, accessFlags := 26, slot := 0, constantValue := 0 }, { name := "LO_BYTE_SHIFT", type := .int, accessFlags := 26, slot := 1, constantValue := 0 }, { name := "MAX_LENGTH", type := .int, accessFlags := 24, slot := 2, constantValue := 0 }, { name := "$assertionsDisabled", type := .boolean, accessFlags := 4120, slot := 3, constantValue := 0 }]
  methods := #[k9m0, k9m1, k9m2, k9m3]
  instanceTypes := #[]
  staticTypes := #[.int, .int, .int, .boolean]
  resolved := Array.replicate 635 none
  statics := none }

def pool10 : Array CpInfo := pool [(2, .class_ 4), (1, u "java/lang/Object"), (0, u "<init>"), (0, u "()V"), (35, .class_ 44), (1, u "java/util/Objects"), (0, u "requireNonNull"), (48, u "(Ljava/lang/Object;Ljava/lang/String;)Ljava/lang/Object;")] 89

def k10m0 : Method := { name := "<init>", desc := "()V", sig := { parameters := [], returnType := none }, accessFlags := 2, code := none }
def k10c1 : Code := { maxStack := 3, maxLocals := 2, code := jdk_31_method_11_code, exceptionTable := #[], attributes := #[] }
def k10m1 : Method := { name := "requireNonNull", desc := "(Ljava/lang/Object;Ljava/lang/String;)Ljava/lang/Object;", sig := { parameters := [(.object "java/lang/Object"), (.object "java/lang/String")], returnType := some (.object "java/lang/Object") }, accessFlags := 9, code := some k10c1 }
/-- java/util/Objects -/
def k10 : Class := { plain "java/util/Objects" (some 0) with
  accessFlags := 49
  interfaces := #[]
  cf := some (fileOf pool10 42 #[] #[{ accessFlags := 2, nameIndex := 5, descriptorIndex := 6, attributes := #[] }, { accessFlags := 9, nameIndex := 45, descriptorIndex := 94, attributes := #[] }] 49 2 #[] #[])
  fields := #[]
  methods := #[k10m0, k10m1]
  instanceTypes := #[]
  staticTypes := #[]
  resolved := Array.replicate 184 none
  statics := none }

def pool11 : Array CpInfo := pool [(4, .class_ 6), (1, u "java/lang/Object"), (0, u "<init>"), (0, u "()V"), (5, .class_ 16), (1, u "java/lang/StringLatin1"), (104, u "$assertionsDisabled"), (0, u "Z"), (98, .class_ 223), (1, u "java/lang/StringLatin1$LinesSpliterator"), (57, u "equals"), (0, u "([B[B)Z"), (107, .class_ 391), (0, u "java/lang/StringLatin1$CharsSpliterator")] 3

def k11m0 : Method := { name := "<init>", desc := "()V", sig := { parameters := [], returnType := none }, accessFlags := 0, code := none }
def k11c1 : Code := { maxStack := 3, maxLocals := 3, code := jdk_43_method_13_code, exceptionTable := #[], attributes := #[] }
def k11m1 : Method := { name := "equals", desc := "([B[B)Z", sig := { parameters := [(.array .byte), (.array .byte)], returnType := some .boolean }, accessFlags := 9, code := some k11c1 }
/-- java/lang/StringLatin1 -/
def k11 : Class := { plain "java/lang/StringLatin1" (some 0) with
  accessFlags := 48
  interfaces := #[]
  cf := some (fileOf pool11 14 #[.nestMembers #[390, 221]] #[{ accessFlags := 0, nameIndex := 7, descriptorIndex := 8, attributes := #[] }, { accessFlags := 9, nameIndex := 281, descriptorIndex := 282, attributes := #[] }] 48 4 #[] #[{ accessFlags := 4120, nameIndex := 121, descriptorIndex := 122, attributes := #[] }])
  fields := #[{ name := "$assertionsDisabled", type := .boolean, accessFlags := 4120, slot := 0, constantValue := 0 }]
  methods := #[k11m0, k11m1]
  instanceTypes := #[]
  staticTypes := #[.boolean]
  resolved := Array.replicate 395 none
  statics := none }

def pool12 : Array CpInfo := pool [(2, .class_ 4), (1, u "java/lang/Object"), (0, u "<init>"), (0, u "()V"), (17, .class_ 26), (1, u "jdk/internal/util/Preconditions"), (28, .class_ 56), (0, u "jdk/internal/util/Preconditions$4"), (57, .class_ 115), (0, u "jdk/internal/util/Preconditions$1"), (7, u "SIOOBE_FORMATTER"), (0, u "Ljava/util/function/BiFunction;"), (0, .class_ 126), (0, u "jdk/internal/util/Preconditions$2"), (3, u "AIOOBE_FORMATTER"), (0, .class_ 132), (0, u "jdk/internal/util/Preconditions$3"), (3, u "IOOBE_FORMATTER")] 57

def k12m0 : Method := { name := "<init>", desc := "()V", sig := { parameters := [], returnType := none }, accessFlags := 1, code := none }
/-- jdk/internal/util/Preconditions -/
def k12 : Class := { plain "jdk/internal/util/Preconditions" (some 0) with
  accessFlags := 33
  interfaces := #[]
  cf := some (fileOf pool12 24 #[.nestMembers #[55, 131, 125, 114]] #[{ accessFlags := 1, nameIndex := 5, descriptorIndex := 6, attributes := #[] }] 33 2 #[] #[{ accessFlags := 25, nameIndex := 123, descriptorIndex := 124, attributes := #[] }, { accessFlags := 25, nameIndex := 130, descriptorIndex := 124, attributes := #[] }, { accessFlags := 25, nameIndex := 136, descriptorIndex := 124, attributes := #[] }])
  fields := #[{ name := "SIOOBE_FORMATTER", type := (.object "java/util/function/BiFunction"), accessFlags := 25, slot := 0, constantValue := 0 }, { name := "AIOOBE_FORMATTER", type := (.object "java/util/function/BiFunction"), accessFlags := 25, slot := 1, constantValue := 0 }, { name := "IOOBE_FORMATTER", type := (.object "java/util/function/BiFunction"), accessFlags := 25, slot := 2, constantValue := 0 }]
  methods := #[k12m0]
  instanceTypes := #[]
  staticTypes := #[(.object "java/util/function/BiFunction"), (.object "java/util/function/BiFunction"), (.object "java/util/function/BiFunction")]
  resolved := Array.replicate 194 none
  statics := some 1 }

def pool13 : Array CpInfo := pool [(9, u "<init>"), (6, .class_ 18), (1, u "java/lang/Object"), (0, u "()V"), (1, .class_ 23), (1, u "jdk/internal/util/ArraysSupport"), (0, u "LOG2_ARRAY_LONG_INDEX_SCALE"), (0, u "I"), (2, u "U"), (0, u "Ljdk/internal/misc/Unsafe;"), (8, u "BIG_ENDIAN"), (0, u "Z"), (8, u "LOG2_BYTE_BIT_SIZE"), (4, u "LOG2_ARRAY_INT_INDEX_SCALE"), (54, u "JLA"), (0, u "Ljdk/internal/access/JavaLangAccess;"), (11, u "LOG2_ARRAY_BOOLEAN_INDEX_SCALE"), (9, u "LOG2_ARRAY_BYTE_INDEX_SCALE"), (5, u "LOG2_ARRAY_CHAR_INDEX_SCALE"), (5, u "LOG2_ARRAY_SHORT_INDEX_SCALE"), (18, u "LOG2_ARRAY_FLOAT_INDEX_SCALE"), (24, u "LOG2_ARRAY_DOUBLE_INDEX_SCALE"), (89, u "T_BOOLEAN"), (2, u "T_CHAR"), (1, u "T_FLOAT"), (1, u "T_DOUBLE"), (1, u "T_BYTE"), (1, u "T_SHORT"), (1, u "T_INT"), (1, u "T_LONG"), (1, u "SOFT_MAX_ARRAY_LENGTH")] 83

def k13m0 : Method := { name := "<init>", desc := "()V", sig := { parameters := [], returnType := none }, accessFlags := 2, code := none }
/-- jdk/internal/util/ArraysSupport -/
def k13 : Class := { plain "jdk/internal/util/ArraysSupport" (some 0) with
  accessFlags := 33
  interfaces := #[]
  cf := some (fileOf pool13 21 #[] #[{ accessFlags := 2, nameIndex := 9, descriptorIndex := 19, attributes := #[] }] 33 16 #[] #[{ accessFlags := 24, nameIndex := 28, descriptorIndex := 29, attributes := #[] }, { accessFlags := 26, nameIndex := 38, descriptorIndex := 39, attributes := #[] }, { accessFlags := 25, nameIndex := 121, descriptorIndex := 25, attributes := #[] }, { accessFlags := 25, nameIndex := 131, descriptorIndex := 25, attributes := #[] }, { accessFlags := 25, nameIndex := 137, descriptorIndex := 25, attributes := #[] }, { accessFlags := 25, nameIndex := 143, descriptorIndex := 25, attributes := #[] }, { accessFlags := 25, nameIndex := 53, descriptorIndex := 25, attributes := #[] }, { accessFlags := 25, nameIndex := 24, descriptorIndex := 25, attributes := #[] }, { accessFlags := 25, nameIndex := 162, descriptorIndex := 25, attributes := #[] }, { accessFlags := 25, nameIndex := 187, descriptorIndex := 25, attributes := #[] }, { accessFlags := 26, nameIndex := 48, descriptorIndex := 25, attributes := #[] }, { accessFlags := 25, nameIndex := 277, descriptorIndex := 25, attributes := #[] }, { accessFlags := 25, nameIndex := 280, descriptorIndex := 25, attributes := #[] }, { accessFlags := 25, nameIndex := 282, descriptorIndex := 25, attributes := #[] }, { accessFlags := 25, nameIndex := 284, descriptorIndex := 25, attributes := #[] }, { accessFlags := 25, nameIndex := 286, descriptorIndex := 25, attributes := #[] }, { accessFlags := 25, nameIndex := 288, descriptorIndex := 25, attributes := #[] }, { accessFlags := 25, nameIndex := 290, descriptorIndex := 25, attributes := #[] }, { accessFlags := 25, nameIndex := 292, descriptorIndex := 25, attributes := #[] }, { accessFlags := 26, nameIndex := 108, descriptorIndex := 109, attributes := #[] }, { accessFlags := 25, nameIndex := 294, descriptorIndex := 25, attributes := #[] }])
  fields := #[{ name := "U", type := (.object "jdk/internal/misc/Unsafe"), accessFlags := 24, slot := 0, constantValue := 0 }, { name := "BIG_ENDIAN", type := .boolean, accessFlags := 26, slot := 1, constantValue := 0 }, { name := "LOG2_ARRAY_BOOLEAN_INDEX_SCALE", type := .int, accessFlags := 25, slot := 2, constantValue := 0 }, { name := "LOG2_ARRAY_BYTE_INDEX_SCALE", type := .int, accessFlags := 25, slot := 3, constantValue := 0 }, { name := "LOG2_ARRAY_CHAR_INDEX_SCALE", type := .int, accessFlags := 25, slot := 4, constantValue := 0 }, { name := "LOG2_ARRAY_SHORT_INDEX_SCALE", type := .int, accessFlags := 25, slot := 5, constantValue := 0 }, { name := "LOG2_ARRAY_INT_INDEX_SCALE", type := .int, accessFlags := 25, slot := 6, constantValue := 0 }, { name := "LOG2_ARRAY_LONG_INDEX_SCALE", type := .int, accessFlags := 25, slot := 7, constantValue := 0 }, { name := "LOG2_ARRAY_FLOAT_INDEX_SCALE", type := .int, accessFlags := 25, slot := 8, constantValue := 0 }, { name := "LOG2_ARRAY_DOUBLE_INDEX_SCALE", type := .int, accessFlags := 25, slot := 9, constantValue := 0 }, { name := "LOG2_BYTE_BIT_SIZE", type := .int, accessFlags := 26, slot := 10, constantValue := 0 }, { name := "T_BOOLEAN", type := .int, accessFlags := 25, slot := 11, constantValue := 0 }, { name := "T_CHAR", type := .int, accessFlags := 25, slot := 12, constantValue := 0 }, { name := "T_FLOAT", type := .int, accessFlags := 25, slot := 13, constantValue := 0 }, { name := "T_DOUBLE", type := .int, accessFlags := 25, slot := 14, constantValue := 0 }, { name := "T_BYTE", type := .int, accessFlags := 25, slot := 15, constantValue := 0 }, { name := "T_SHORT", type := .int, accessFlags := 25, slot := 16, constantValue := 0 }, { name := "T_INT", type := .int, accessFlags := 25, slot := 17, constantValue := 0 }, { name := "T_LONG", type := .int, accessFlags := 25, slot := 18, constantValue := 0 }, { name := "JLA", type := (.object "jdk/internal/access/JavaLangAccess"), accessFlags := 26, slot := 19, constantValue := 0 }, { name := "SOFT_MAX_ARRAY_LENGTH", type := .int, accessFlags := 25, slot := 20, constantValue := 0 }]
  methods := #[k13m0]
  instanceTypes := #[]
  staticTypes := #[(.object "jdk/internal/misc/Unsafe"), .boolean, .int, .int, .int, .int, .int, .int, .int, .int, .int, .int, .int, .int, .int, .int, .int, .int, .int, (.object "jdk/internal/access/JavaLangAccess"), .int]
  resolved := Array.replicate 378 none
  statics := none }

def pool14 : Array CpInfo := pool [(1, u "java/lang/Cloneable"), (0, .class_ 1), (0, u "java/lang/Object"), (0, .class_ 3)] 3

/-- java/lang/Cloneable -/
def k14 : Class := { plain "java/lang/Cloneable" (some 0) with
  accessFlags := 1537
  interfaces := #[]
  cf := some (fileOf pool14 2 #[] #[] 1537 4 #[] #[])
  fields := #[]
  methods := #[]
  instanceTypes := #[]
  staticTypes := #[]
  resolved := Array.replicate 8 none
  statics := none }

/-- the primitive byte -/
def k15 : Class := { plain "byte" none with kind := .primitive 'B', accessFlags := 0x411 }
/-- [B -/
def k16 : Class := { plain "[B" (some 0) with kind := .array 15 .byte, interfaces := #[14, 3], accessFlags := 1041 }

/-- the primitive char -/
def k17 : Class := { plain "char" none with kind := .primitive 'C', accessFlags := 0x411 }
/-- [C -/
def k18 : Class := { plain "[C" (some 0) with kind := .array 17 .char, interfaces := #[14, 3], accessFlags := 1041 }

/-- the primitive int -/
def k19 : Class := { plain "int" none with kind := .primitive 'I', accessFlags := 0x411 }
/-- [I -/
def k20 : Class := { plain "[I" (some 0) with kind := .array 19 .int, interfaces := #[14, 3], accessFlags := 1041 }

def heap : Heap := #[{ cls := 8, slots := #[.long 0, .int 1, .null, .int 0, .null, .int 0, .int 0], vm := .statics 8 },
  { cls := 12, slots := #[.null, .null, .null], vm := .statics 12 }]
def classes : Array Class := #[k0, k1, k2, k3, k4, k5, k6, k7, k8, k9, k10, k11, k12, k13, k14, k15, k16, k17, k18, k19, k20]
def interned : List (Array UInt16 × Addr) := []
def slotsUsed : Nat := 10
def theMethod : MethodId := ⟨1, 1⟩
def args0 : Array Value := #[.int 5, .int 5, .int 5, .int 5, .int 5]
def aboutOver (below : List Frame) : State where
  vm := { classes := classes, interned := interned.toArray }
  heap := heap
  slotsUsed := slotsUsed
  threads := #[{ frames := .invoking theMethod args0 :: below }]
def below0 : List Frame := [.native { method := ⟨0, 0⟩, args := #[] }]
def about1 : State := aboutOver below0
def p0 : Program := .bare "" "" ""
def e0 : Env := launch0.env 0 0 0
theorem w_frames : about1.frames = Frame.invoking theMethod args0 :: below0 := rfl
set_option maxRecDepth 65536 in
theorem w_args : argsFit about1.vm theMethod args0 = true := by decide +kernel
set_option maxRecDepth 65536 in
theorem w_heap : heapFits about1 = true := by decide +kernel
set_option maxRecDepth 65536 in
theorem w_runnable : about1.curStatus? = some .runnable := by decide +kernel
set_option maxRecDepth 65536 in
theorem w_alone : about1.alone = true := by decide +kernel
set_option maxRecDepth 65536 in
theorem w_named : about1.methodNamed? x = some theMethod := by decide +kernel
set_option maxRecDepth 65536 in
theorem w_hears : about1.hears theMethod below0 = true := by decide +kernel
set_option maxRecDepth 65536 in
theorem w_ripe : about1.ripe theMethod args0 below0 = true := by decide +kernel
theorem w_running : about1.status = .running := rfl
set_option maxRecDepth 65536 in
theorem w_room : about1.hasRoom e0.platform room_1 = true :=
  launch0.hasRoom_least _ room_1 (by decide +kernel) (by decide +kernel) (by decide +kernel) (by decide +kernel) (by decide +kernel) (by decide +kernel)
theorem allAtoms_all (ts : List Jvm.Cond) (a : Array Jvm.Value) (st : Jvm.State) : (allAtoms ts).before a st = ts.all (fun c => c.before a st) := by
  induction ts with
  | nil => rfl
  | cons c t ih =>
    show (Jvm.Cond.and c (allAtoms t)).before a st = _
    rw [Jvm.Cond.before_and, ih, List.all_cons]
def words1 : List Jvm.Cond := Jvm.Cond.code x code maxLocals ret :: tables_1
/-- a 'code' word, met by the world's own term for the bytes: nothing is compared byte by byte -/
theorem code_word {y : MethodName} {bytes : ByteArray} {mx : Nat} {rt : Option FieldType} {a : Array Value} {s : State} {m : MethodId} {meth : Method} {c : Code} (h1 : s.methodNamed? y = some m) (h2 : s.vm.method? m = some meth) (h3 : meth.code = some c) (h4 : c.code = bytes)
    (h5 : (c.maxLocals == mx && c.exceptionTable.isEmpty && decide (c.maxStack ≤ mostOperands) && decide (meth.sig.returnType = rt) && !meth.locks && decide (parseMethodDescriptor y.desc = some meth.sig)) = true) : (Jvm.Cond.code y bytes mx rt).before a s = true := by
  simp only [Bool.and_eq_true, beq_iff_eq, Bool.not_eq_true', decide_eq_true_eq] at h5
  obtain ⟨⟨⟨⟨⟨g1, g2⟩, g3⟩, g4⟩, g5⟩, g6⟩ := h5
  simp [Cond.before, Cond.holds, Cond.value, h1, h2, h3, h4, g1, g2, g3, g4, g5, g6]
def isCode : Jvm.Cond → Bool
  | .code _ _ _ _ => true
  | _ => false
theorem all_split {L : List Jvm.Cond} {P : Jvm.Cond → Bool} (h1 : L.all (fun c => isCode c || P c) = true) (h2 : ∀ c ∈ L.filter isCode, P c = true) : L.all P = true := by
  refine List.all_eq_true.mpr fun c hc => ?_
  have h := List.all_eq_true.mp h1 c hc
  rcases Bool.eq_false_or_eq_true (isCode c) with hi | hi
  · exact h2 c (List.mem_filter.mpr ⟨hc, hi⟩)
  · simpa [hi] using h
set_option maxRecDepth 65536 in
theorem w_c0 : (Jvm.Cond.code x code maxLocals ret).before args0 about1 = true := code_word (m := ⟨1, 1⟩) (meth := k1m1) (c := k1c1) (by decide +kernel) rfl rfl rfl (by decide +kernel)
set_option maxRecDepth 65536 in
theorem w_c1 : (Jvm.Cond.code ({ cls := "com/example/lost_update_guard/lostupdateguard/TableEqualsPinLaw", name := "str", desc := "(I)Ljava/lang/String;" } : Jvm.MethodName) method_3_code (5 : Nat) (Option.some (Jvm.ClassFile.FieldType.object "java/lang/String"))).before args0 about1 = true := code_word (m := ⟨1, 2⟩) (meth := k1m2) (c := k1c2) (by decide +kernel) rfl rfl rfl (by decide +kernel)
set_option maxRecDepth 65536 in
theorem w_c2 : (Jvm.Cond.code ({ cls := "java/lang/String", name := "<init>", desc := "([C)V" } : Jvm.MethodName) jdk_42_method_3_code (2 : Nat) (Option.none : Option Jvm.ClassFile.FieldType)).before args0 about1 = true := code_word (m := ⟨8, 1⟩) (meth := k8m1) (c := k8c1) (by decide +kernel) rfl rfl rfl (by decide +kernel)
set_option maxRecDepth 65536 in
theorem w_c3 : (Jvm.Cond.code ({ cls := "java/lang/String", name := "<init>", desc := "([CIILjava/lang/Void;)V" } : Jvm.MethodName) jdk_42_method_149_code (6 : Nat) (Option.none : Option Jvm.ClassFile.FieldType)).before args0 about1 = true := code_word (m := ⟨8, 3⟩) (meth := k8m3) (c := k8c3) (by decide +kernel) rfl rfl rfl (by decide +kernel)
set_option maxRecDepth 65536 in
theorem w_c4 : (Jvm.Cond.code ({ cls := "java/lang/Object", name := "<init>", desc := "()V" } : Jvm.MethodName) object_method_1_code (1 : Nat) (Option.none : Option Jvm.ClassFile.FieldType)).before args0 about1 = true := code_word (m := ⟨0, 0⟩) (meth := k0m0) (c := k0c0) (by decide +kernel) rfl rfl rfl (by decide +kernel)
set_option maxRecDepth 65536 in
theorem w_c5 : (Jvm.Cond.code ({ cls := "java/lang/StringUTF16", name := "compress", desc := "([CII)[B" } : Jvm.MethodName) jdk_52_method_16_code (6 : Nat) (Option.some (Jvm.ClassFile.FieldType.array Jvm.ClassFile.FieldType.byte))).before args0 about1 = true := code_word (m := ⟨9, 2⟩) (meth := k9m2) (c := k9c2) (by decide +kernel) rfl rfl rfl (by decide +kernel)
set_option maxRecDepth 65536 in
theorem w_c6 : (Jvm.Cond.code ({ cls := "java/lang/StringUTF16", name := "compress", desc := "([CI[BII)I" } : Jvm.MethodName) jdk_52_method_21_code (7 : Nat) (Option.some Jvm.ClassFile.FieldType.int)).before args0 about1 = true := code_word (m := ⟨9, 3⟩) (meth := k9m3) (c := k9c3) (by decide +kernel) rfl rfl rfl (by decide +kernel)
set_option maxRecDepth 65536 in
theorem w_c7 : (Jvm.Cond.code ({ cls := "java/lang/StringUTF16", name := "coderFromArrayLen", desc := "([BI)B" } : Jvm.MethodName) jdk_52_method_15_code (2 : Nat) (Option.some Jvm.ClassFile.FieldType.byte)).before args0 about1 = true := code_word (m := ⟨9, 1⟩) (meth := k9m1) (c := k9c1) (by decide +kernel) rfl rfl rfl (by decide +kernel)
set_option maxRecDepth 65536 in
theorem w_c8 : (Jvm.Cond.code ({ cls := "com/example/lost_update_guard/lostupdateguard/Cascades$Table", name := "<init>", desc := "(Ljava/lang/String;Ljava/lang/String;)V" } : Jvm.MethodName) prog_11_method_1_code (3 : Nat) (Option.none : Option Jvm.ClassFile.FieldType)).before args0 about1 = true := code_word (m := ⟨2, 0⟩) (meth := k2m0) (c := k2c0) (by decide +kernel) rfl rfl rfl (by decide +kernel)
set_option maxRecDepth 65536 in
theorem w_c9 : (Jvm.Cond.code ({ cls := "java/util/Objects", name := "requireNonNull", desc := "(Ljava/lang/Object;Ljava/lang/String;)Ljava/lang/Object;" } : Jvm.MethodName) jdk_31_method_11_code (2 : Nat) (Option.some (Jvm.ClassFile.FieldType.object "java/lang/Object"))).before args0 about1 = true := code_word (m := ⟨10, 1⟩) (meth := k10m1) (c := k10c1) (by decide +kernel) rfl rfl rfl (by decide +kernel)
set_option maxRecDepth 65536 in
theorem w_c10 : (Jvm.Cond.code ({ cls := "com/example/lost_update_guard/lostupdateguard/TableEqualsPinLaw", name := "sameText", desc := "(II)Z" } : Jvm.MethodName) method_4_code (6 : Nat) (Option.some Jvm.ClassFile.FieldType.boolean)).before args0 about1 = true := code_word (m := ⟨1, 3⟩) (meth := k1m3) (c := k1c3) (by decide +kernel) rfl rfl rfl (by decide +kernel)
set_option maxRecDepth 65536 in
theorem w_c11 : (Jvm.Cond.code ({ cls := "com/example/lost_update_guard/lostupdateguard/Cascades$Table", name := "equals", desc := "(Ljava/lang/Object;)Z" } : Jvm.MethodName) prog_11_method_5_code (3 : Nat) (Option.some Jvm.ClassFile.FieldType.boolean)).before args0 about1 = true := code_word (m := ⟨2, 1⟩) (meth := k2m1) (c := k2c1) (by decide +kernel) rfl rfl rfl (by decide +kernel)
set_option maxRecDepth 65536 in
theorem w_c12 : (Jvm.Cond.code ({ cls := "java/lang/String", name := "equals", desc := "(Ljava/lang/Object;)Z" } : Jvm.MethodName) jdk_42_method_66_code (3 : Nat) (Option.some Jvm.ClassFile.FieldType.boolean)).before args0 about1 = true := code_word (m := ⟨8, 2⟩) (meth := k8m2) (c := k8c2) (by decide +kernel) rfl rfl rfl (by decide +kernel)
set_option maxRecDepth 65536 in
theorem w_c13 : (Jvm.Cond.code ({ cls := "java/lang/StringLatin1", name := "equals", desc := "([B[B)Z" } : Jvm.MethodName) jdk_43_method_13_code (3 : Nat) (Option.some Jvm.ClassFile.FieldType.boolean)).before args0 about1 = true := code_word (m := ⟨11, 1⟩) (meth := k11m1) (c := k11c1) (by decide +kernel) rfl rfl rfl (by decide +kernel)
def codes1 : List Jvm.Cond := [Jvm.Cond.code x code maxLocals ret, Jvm.Cond.code ({ cls := "com/example/lost_update_guard/lostupdateguard/TableEqualsPinLaw", name := "str", desc := "(I)Ljava/lang/String;" } : Jvm.MethodName) method_3_code (5 : Nat) (Option.some (Jvm.ClassFile.FieldType.object "java/lang/String")), Jvm.Cond.code ({ cls := "java/lang/String", name := "<init>", desc := "([C)V" } : Jvm.MethodName) jdk_42_method_3_code (2 : Nat) (Option.none : Option Jvm.ClassFile.FieldType), Jvm.Cond.code ({ cls := "java/lang/String", name := "<init>", desc := "([CIILjava/lang/Void;)V" } : Jvm.MethodName) jdk_42_method_149_code (6 : Nat) (Option.none : Option Jvm.ClassFile.FieldType), Jvm.Cond.code ({ cls := "java/lang/Object", name := "<init>", desc := "()V" } : Jvm.MethodName) object_method_1_code (1 : Nat) (Option.none : Option Jvm.ClassFile.FieldType), Jvm.Cond.code ({ cls := "java/lang/StringUTF16", name := "compress", desc := "([CII)[B" } : Jvm.MethodName) jdk_52_method_16_code (6 : Nat) (Option.some (Jvm.ClassFile.FieldType.array Jvm.ClassFile.FieldType.byte)), Jvm.Cond.code ({ cls := "java/lang/StringUTF16", name := "compress", desc := "([CI[BII)I" } : Jvm.MethodName) jdk_52_method_21_code (7 : Nat) (Option.some Jvm.ClassFile.FieldType.int), Jvm.Cond.code ({ cls := "java/lang/StringUTF16", name := "coderFromArrayLen", desc := "([BI)B" } : Jvm.MethodName) jdk_52_method_15_code (2 : Nat) (Option.some Jvm.ClassFile.FieldType.byte), Jvm.Cond.code ({ cls := "com/example/lost_update_guard/lostupdateguard/Cascades$Table", name := "<init>", desc := "(Ljava/lang/String;Ljava/lang/String;)V" } : Jvm.MethodName) prog_11_method_1_code (3 : Nat) (Option.none : Option Jvm.ClassFile.FieldType), Jvm.Cond.code ({ cls := "java/util/Objects", name := "requireNonNull", desc := "(Ljava/lang/Object;Ljava/lang/String;)Ljava/lang/Object;" } : Jvm.MethodName) jdk_31_method_11_code (2 : Nat) (Option.some (Jvm.ClassFile.FieldType.object "java/lang/Object")), Jvm.Cond.code ({ cls := "com/example/lost_update_guard/lostupdateguard/TableEqualsPinLaw", name := "sameText", desc := "(II)Z" } : Jvm.MethodName) method_4_code (6 : Nat) (Option.some Jvm.ClassFile.FieldType.boolean), Jvm.Cond.code ({ cls := "com/example/lost_update_guard/lostupdateguard/Cascades$Table", name := "equals", desc := "(Ljava/lang/Object;)Z" } : Jvm.MethodName) prog_11_method_5_code (3 : Nat) (Option.some Jvm.ClassFile.FieldType.boolean), Jvm.Cond.code ({ cls := "java/lang/String", name := "equals", desc := "(Ljava/lang/Object;)Z" } : Jvm.MethodName) jdk_42_method_66_code (3 : Nat) (Option.some Jvm.ClassFile.FieldType.boolean), Jvm.Cond.code ({ cls := "java/lang/StringLatin1", name := "equals", desc := "([B[B)Z" } : Jvm.MethodName) jdk_43_method_13_code (3 : Nat) (Option.some Jvm.ClassFile.FieldType.boolean)]
set_option maxRecDepth 65536 in
theorem codes_eq : words1.filter isCode = codes1 := rfl
theorem w_codes : ∀ c ∈ words1.filter isCode, c.before args0 about1 = true := by
  rw [codes_eq]
  intro c hc
  simp only [codes1, List.mem_cons, List.not_mem_nil, or_false] at hc
  rcases hc with rfl | rfl | rfl | rfl | rfl | rfl | rfl | rfl | rfl | rfl | rfl | rfl | rfl | rfl
  · exact w_c0
  · exact w_c1
  · exact w_c2
  · exact w_c3
  · exact w_c4
  · exact w_c5
  · exact w_c6
  · exact w_c7
  · exact w_c8
  · exact w_c9
  · exact w_c10
  · exact w_c11
  · exact w_c12
  · exact w_c13
set_option maxRecDepth 65536 in
theorem w_t1 : (words1.take 24).all (fun c => isCode c || c.before args0 about1) = true := by decide +kernel
set_option maxRecDepth 65536 in
theorem w_t2 : ((words1.drop 24).take 24).all (fun c => isCode c || c.before args0 about1) = true := by decide +kernel
set_option maxRecDepth 65536 in
theorem w_t3 : (((words1.drop 24).drop 24).take 24).all (fun c => isCode c || c.before args0 about1) = true := by decide +kernel
set_option maxRecDepth 65536 in
theorem w_t4 : (((words1.drop 24).drop 24).drop 24).all (fun c => isCode c || c.before args0 about1) = true := by decide +kernel
theorem w_tables : (allAtoms (Jvm.Cond.code x code maxLocals ret :: tables_1)).before args0 about1 = true := by
  rw [allAtoms_all]
  show words1.all (fun c => c.before args0 about1) = true
  refine all_split ?_ w_codes
  rw [← List.take_append_drop 24 words1, List.all_append, w_t1, ← List.take_append_drop 24 (words1.drop 24), List.all_append, w_t2, ← List.take_append_drop 24 ((words1.drop 24).drop 24), List.all_append, w_t3, w_t4]
  rfl
set_option maxRecDepth 65536 in
theorem w_rest : rest_1_c.before args0 about1 = true := by decide +kernel
set_option maxRecDepth 65536 in
theorem w_case : (Jvm.Cond.and given_1 narrow_1).before args0 about1 = true := by decide +kernel
set_option maxRecDepth 65536 in
theorem w_consts : constsHeld consts_1 about1 := Jvm.Lit.constsHeldB_iff.mp (by decide +kernel)
theorem w_applies : (headSpec (Jvm.Cond.code x code maxLocals ret :: tables_1) room_1).applies x e0.platform about1 = true :=
  (Spec.applies_iff w_frames).mpr ⟨w_running, w_runnable, w_alone, w_named, w_hears, w_ripe, w_room, w_tables⟩
theorem atStart : AtStart classFile x code maxLocals ret World_1 tables_1 room_1 Calls_1 rest_1 Pre_1 launch0 p0 e0 about1 theMethod args0 below0 :=
  ⟨lists_1, trivial, launch0.admits_env _ _ _, launch0.least_env, fairChoices_fair.cas, fairChoices_fair.clock, w_frames, w_args, w_heap, w_applies, ⟨w_consts, trivial⟩, w_rest, w_case⟩
end start1
theorem witness_1 : WitnessClaimed_1 := ⟨start1.p0, start1.e0, start1.about1, start1.theMethod, start1.args0, start1.below0, start1.atStart⟩
end Jvm.Pilot.@@N@@
