import JvmDerived
import JvmDerived.Pilot.@@N@@Statement
import JvmDerived.Pilot.@@N@@Code
set_option linter.unusedVariables false
set_option linter.unusedSimpArgs false
namespace Jvm.Pilot.@@N@@.W
open Jvm Jvm.ClassFile Sem Op Lib Jvm.Free Jvm.Stand Jvm.LawKit Jvm.RoadKit
/-- what stays fixed in a body's walk: the interpreter, the tables, the body's own class, bytes, locals, kind of result and name -/
def Cx (Z : State) (own : String) (bytes : ByteArray) (maxL : Nat) (ret : Option FieldType) (mn : String) (p : Program) (s : State) (m : MethodId) (meth : Method) (c : Code) : Prop :=
  p.tables.exec = Jvm.exec ∧ Z.Warmed39 s.vm ∧ s.vm.findClass own = some m.cls ∧ c.code = bytes ∧ c.maxLocals = maxL ∧ meth.sig.returnType = ret ∧ meth.locks = false ∧ meth.name = mn
/-- from the frame f at the heap h on, the body runs to its end and leaves Q -/
def Go (p : Program) (l : Launch) (e : Env) (R : Room) (s : State) (m : MethodId) (args : Array Value) (below : List Frame) (meth : Method) (c : Code) (n0 kc ks : Nat) (Q : Option Value → Heap → Prop) (h : Heap) (cells slots : Nat) (f : JFrame) : Prop :=
  ∀ (T : State) (locs : List Loc), Stand p l e R s m args below meth c T locs cells slots → T.heap = h → Fr n0 locs →
    ∃ s₂ o, Steps p.tables e below (T.setTop f) s₂ ∧ s₂.status = .running ∧ Ended s₂ below o ∧ ∃ v L, o = .returned v ∧ (Q v s₂.heap ∧ Fr n0 L) ∧ FrameEnd s o s₂ L kc ks
/-- a body's contract: called with as' at the heap h it returns, and Q holds -/
def Ctr (l : Launch) (Z : State) (n0 : Nat) (y : MethodName) (bytes : ByteArray) (maxL : Nat) (ret : Option FieldType) (ws : List Cond) (rm : Room) (as' : Array Value) (h : Heap) (Q : Option Value → Heap → Prop) : Prop :=
  MetFree l y (head1 (Cond.code y bytes maxL ret :: ws) rm) (fun a U => a = as' ∧ Z.Warmed39 U.vm ∧ U.heap = h) (fun _ _ _ _ _ => True) (fun _ U o U' => ∃ v L, o = .returned v ∧ (Q v U'.heap ∧ Fr n0 L) ∧ FrameEnd U o U' L rm.cells rm.slots)
theorem Ctr.body {l : Launch} {Z : State} {n0 : Nat} {y : MethodName} {bytes : ByteArray} {maxL : Nat} {ret : Option FieldType} {ws : List Cond} {rm : Room} {as' : Array Value} {h : Heap} {Q : Option Value → Heap → Prop}
    (hp : plainFor y = true)
    (body : ∀ p e s m below meth c, Cx Z y.cls bytes maxL ret y.name p s m meth c → Go p l e rm s m as' below meth c n0 rm.cells rm.slots Q h 0 0 (entryFrame m as' maxL)) : Ctr l Z n0 y bytes maxL ret ws rm as' h Q := by
  refine MetFree.of_bodySF hp hisR ?_
  intro p e s m args below meth c s₁ Bd hml0 hP hK
  obtain ⟨rfl, hZ, hh⟩ := hP
  exact body p e s m below meth c ⟨Bd.exec, hZ, findClass_of_methodNamed Bd.named, Bd.bytes, hml0, Bd.returns, Bd.notSynchronized, (name_of_methodNamed Bd.named Bd.method).1⟩ s₁ [] (Stand.of_body Bd) (by rw [← hh, Bd.state]; rfl) (Fr.nil n0)
theorem Ctr.mono {l : Launch} {Z : State} {n0 : Nat} {y : MethodName} {bytes : ByteArray} {maxL : Nat} {ret : Option FieldType} {ws : List Cond} {rm : Room} {as' : Array Value} {h : Heap} {Q Q' : Option Value → Heap → Prop}
    (C : Ctr l Z n0 y bytes maxL ret ws rm as' h Q) (hq : ∀ v h', Q v h' → Q' v h') : Ctr l Z n0 y bytes maxL ret ws rm as' h Q' := by
  intro p e ha hc hk s m args below hf happ hP hK
  obtain ⟨n, o, h1, h2, h3, v, L, h4, ⟨h5, h6⟩, h7⟩ := C p e ha hc hk s m args below hf happ hP hK
  exact ⟨n, o, h1, h2, h3, v, L, h4, ⟨hq _ _ h5, h6⟩, h7⟩
/-- a comparison's condition as a plain sentence -/
def cdP (cd : ClassFile.Cond) (x y : Int32) : Prop := match cd with
  | .eq => x = y
  | .ne => ¬ x = y
  | .lt => x < y
  | .ge => ¬ x < y
  | .gt => y < x
  | .le => ¬ y < x
/-- and its contrary -/
def cdN (cd : ClassFile.Cond) (x y : Int32) : Prop := match cd with
  | .eq => ¬ x = y
  | .ne => x = y
  | .lt => ¬ x < y
  | .ge => x < y
  | .gt => ¬ y < x
  | .le => y < x
theorem cd_yes {cd : ClassFile.Cond} {x y : Int32} (h : cdP cd x y) : if_icmp.holds cd x y = true := by
  cases cd
  · exact (teq h).1
  · exact (feq h).2
  · exact (tlt h).1
  · exact (flt h).2.1
  · exact (tlt h).2.2.1
  · exact (flt h).2.2.2
theorem cd_no {cd : ClassFile.Cond} {x y : Int32} (h : cdN cd x y) : if_icmp.holds cd x y = false := by
  cases cd
  · exact (feq h).1
  · exact (teq h).2
  · exact (flt h).1
  · exact (tlt h).2.1
  · exact (flt h).2.2.1
  · exact (tlt h).2.2.2
theorem cd_em (cd : ClassFile.Cond) (x y : Int32) : cdP cd x y ∨ cdN cd x y := by
  cases cd
  · exact Decidable.em (x = y)
  · exact (Decidable.em (x = y)).symm
  · exact Decidable.em (x < y)
  · exact (Decidable.em (x < y)).symm
  · exact Decidable.em (y < x)
  · exact (Decidable.em (y < x)).symm
section Rules
variable {p : Program} {l : Launch} {e : Env} {R : Room} {s : State} {m : MethodId} {args : Array Value} {below : List Frame} {meth : Method} {c : Code} {Z : State} {a0 : Array Value} {own mn : String} {bytes : ByteArray} {maxL : Nat} {ret : Option FieldType} {n0 kc ks : Nat} {Q : Option Value → Heap → Prop} {h : Heap} {cells slots : Nat} {pc q : Nat} {L : Array Slot} {S : List Value}
theorem Go.of_step {f f' : JFrame} (st : ∀ T locs, Stand p l e R s m args below meth c T locs cells slots → T.heap = h → ∀ t, Steps p.tables e below (T.setTop f') t → Steps p.tables e below (T.setTop f) t) (k : Go p l e R s m args below meth c n0 kc ks Q h cells slots f') : Go p l e R s m args below meth c n0 kc ks Q h cells slots f := fun T locs X eT N => by
  obtain ⟨s₂, o, a1, a2⟩ := k T locs X eT N
  exact ⟨s₂, o, st T locs X eT _ a1, a2⟩
/-- a step that warms the tables, the heap as it was -/
theorem Go.of_warm {f f' : JFrame} (st : ∀ T locs, Stand p l e R s m args below meth c T locs cells slots → T.heap = h → ∃ T', Stand p l e R s m args below meth c T' locs cells slots ∧ T'.heap = h ∧ ∀ t, Steps p.tables e below (T'.setTop f') t → Steps p.tables e below (T.setTop f) t) (k : Go p l e R s m args below meth c n0 kc ks Q h cells slots f') : Go p l e R s m args below meth c n0 kc ks Q h cells slots f := fun T locs X eT N => by
  obtain ⟨T', X', eT', st'⟩ := st T locs X eT
  obtain ⟨s₂, o, a1, a2⟩ := k T' locs X' eT' N
  exact ⟨s₂, o, st' _ a1, a2⟩
theorem Go.entry {f f' : JFrame} (q : f = f') (k : Go p l e R s m args below meth c n0 kc ks Q h cells slots f') : Go p l e R s m args below meth c n0 kc ks Q h cells slots f := q ▸ k
theorem Go.weaken {f : JFrame} {Q' : Option Value → Heap → Prop} (k : Go p l e R s m args below meth c n0 kc ks Q' h cells slots f) (hq : ∀ v h', Q' v h' → Q v h') : Go p l e R s m args below meth c n0 kc ks Q h cells slots f := fun T locs X eT N => by
  obtain ⟨s₂, o, a1, a2, a3, v, L, a4, ⟨a5, a6⟩, a7⟩ := k T locs X eT N
  exact ⟨s₂, o, a1, a2, a3, v, L, a4, ⟨hq _ _ a5, a6⟩, a7⟩
/-- more cells and slots may be booked -/
theorem Go.more {f : JFrame} {cells' slots' : Nat} (hc : cells ≤ cells') (hs : slots ≤ slots') (k : Go p l e R s m args below meth c n0 kc ks Q h cells' slots' f) : Go p l e R s m args below meth c n0 kc ks Q h cells slots f := fun T locs X eT N => k T locs (X.more hc hs) eT N
theorem Go.aloadN (K : Cx Z own bytes maxL ret mn p s m meth c) (hq : pc + 1 = q) {k : Fin 4} {v : Value} (hd : decode bytes pc = .ok (.aload_n k, 1)) (hl : L[k.val]? = some (.val v)) (hv : v.isRef = true) (r : Go p l e R s m args below meth c n0 kc ks Q h cells slots (mkF m q L (v :: S))) : Go p l e R s m args below meth c n0 kc ks Q h cells slots (mkF m pc L S) := Go.of_step (fun T locs X _ t k => by subst hq; exact XS.aloadN (g := mkF m pc L S) X.here K.1 rfl (hb K.2.2.2.1 hd) hl hv k) r
theorem Go.aload (K : Cx Z own bytes maxL ret mn p s m meth c) (hq : pc + 2 = q) {k : Nat} {v : Value} (hd : decode bytes pc = .ok (.aload k, 2)) (hl : L[k]? = some (.val v)) (hv : v.isRef = true) (r : Go p l e R s m args below meth c n0 kc ks Q h cells slots (mkF m q L (v :: S))) : Go p l e R s m args below meth c n0 kc ks Q h cells slots (mkF m pc L S) := Go.of_step (fun T locs X _ t k => by subst hq; exact XS.aload (g := mkF m pc L S) X.here K.1 rfl (hb K.2.2.2.1 hd) hl hv k) r
theorem Go.iloadN (K : Cx Z own bytes maxL ret mn p s m meth c) (hq : pc + 1 = q) {k : Fin 4} {v : Int32} (hd : decode bytes pc = .ok (.iload_n k, 1)) (hl : L[k.val]? = some (.val (.int v))) (r : Go p l e R s m args below meth c n0 kc ks Q h cells slots (mkF m q L (.int v :: S))) : Go p l e R s m args below meth c n0 kc ks Q h cells slots (mkF m pc L S) := Go.of_step (fun T locs X _ t k => by subst hq; exact XS.iloadN (g := mkF m pc L S) X.here K.1 rfl (hb K.2.2.2.1 hd) hl k) r
theorem Go.iload (K : Cx Z own bytes maxL ret mn p s m meth c) (hq : pc + 2 = q) {k : Nat} {v : Int32} (hd : decode bytes pc = .ok (.iload k, 2)) (hl : L[k]? = some (.val (.int v))) (r : Go p l e R s m args below meth c n0 kc ks Q h cells slots (mkF m q L (.int v :: S))) : Go p l e R s m args below meth c n0 kc ks Q h cells slots (mkF m pc L S) := Go.of_step (fun T locs X _ t k => by subst hq; exact XS.iload (g := mkF m pc L S) X.here K.1 rfl (hb K.2.2.2.1 hd) hl k) r
theorem Go.lloadN (K : Cx Z own bytes maxL ret mn p s m meth c) (hq : pc + 1 = q) {k : Fin 4} {v : Int64} (hd : decode bytes pc = .ok (.lload_n k, 1)) (hl : L[k.val]? = some (.val (.long v))) (r : Go p l e R s m args below meth c n0 kc ks Q h cells slots (mkF m q L (.long v :: S))) : Go p l e R s m args below meth c n0 kc ks Q h cells slots (mkF m pc L S) := Go.of_step (fun T locs X _ t k => by subst hq; exact XS.lloadN (g := mkF m pc L S) X.here K.1 rfl (hb K.2.2.2.1 hd) hl k) r
theorem Go.lload (K : Cx Z own bytes maxL ret mn p s m meth c) (hq : pc + 2 = q) {k : Nat} {v : Int64} (hd : decode bytes pc = .ok (.lload k, 2)) (hl : L[k]? = some (.val (.long v))) (r : Go p l e R s m args below meth c n0 kc ks Q h cells slots (mkF m q L (.long v :: S))) : Go p l e R s m args below meth c n0 kc ks Q h cells slots (mkF m pc L S) := Go.of_step (fun T locs X _ t k => by subst hq; exact XS.lload (g := mkF m pc L S) X.here K.1 rfl (hb K.2.2.2.1 hd) hl k) r
theorem Go.iconst (K : Cx Z own bytes maxL ret mn p s m meth c) (hq : pc + 1 = q) {i : Int} {v : Int32} (hv : Int32.ofInt i = v) (hd : decode bytes pc = .ok (.iconst i, 1)) (r : Go p l e R s m args below meth c n0 kc ks Q h cells slots (mkF m q L (.int v :: S))) : Go p l e R s m args below meth c n0 kc ks Q h cells slots (mkF m pc L S) := Go.of_step (fun T locs X _ t k => by subst hq hv; exact XS.iconst (g := mkF m pc L S) X.here K.1 rfl (hb K.2.2.2.1 hd) k) r
theorem Go.bipush (K : Cx Z own bytes maxL ret mn p s m meth c) (hq : pc + 2 = q) {i : Int} {v : Int32} (hv : (Int8.ofInt i).toInt32 = v) (hd : decode bytes pc = .ok (.bipush i, 2)) (r : Go p l e R s m args below meth c n0 kc ks Q h cells slots (mkF m q L (.int v :: S))) : Go p l e R s m args below meth c n0 kc ks Q h cells slots (mkF m pc L S) := Go.of_step (fun T locs X _ t k => by subst hq hv; exact XS.bipush (g := mkF m pc L S) X.here K.1 rfl (hb K.2.2.2.1 hd) k) r
theorem Go.sipush (K : Cx Z own bytes maxL ret mn p s m meth c) (hq : pc + 3 = q) {i : Int} {v : Int32} (hv : (Int16.ofInt i).toInt32 = v) (hd : decode bytes pc = .ok (.sipush i, 3)) (r : Go p l e R s m args below meth c n0 kc ks Q h cells slots (mkF m q L (.int v :: S))) : Go p l e R s m args below meth c n0 kc ks Q h cells slots (mkF m pc L S) := Go.of_step (fun T locs X _ t k => by subst hq hv; exact XS.sipush (g := mkF m pc L S) X.here K.1 rfl (hb K.2.2.2.1 hd) k) r
theorem Go.aconstNull (K : Cx Z own bytes maxL ret mn p s m meth c) (hq : pc + 1 = q) (hd : decode bytes pc = .ok (.aconst_null, 1)) (r : Go p l e R s m args below meth c n0 kc ks Q h cells slots (mkF m q L (.null :: S))) : Go p l e R s m args below meth c n0 kc ks Q h cells slots (mkF m pc L S) := Go.of_step (fun T locs X _ t k => by subst hq; exact XS.aconstNull (g := mkF m pc L S) X.here K.1 rfl (hb K.2.2.2.1 hd) k) r
theorem Go.ldcInt (K : Cx Z own bytes maxL ret mn p s m meth c) (hq : pc + 2 = q) {i : Nat} {v : Int32} (w : (Cond.constant own i v).before a0 Z = true) (hd : decode bytes pc = .ok (.ldc i, 2)) (r : Go p l e R s m args below meth c n0 kc ks Q h cells slots (mkF m q L (.int v :: S))) : Go p l e R s m args below meth c n0 kc ks Q h cells slots (mkF m pc L S) := Go.of_step (fun T locs X _ t k => by subst hq; exact X.ldcInt K.1 K.2.2.1 (mvT K.2.1 w) (g := mkF m pc L S) rfl (hb K.2.2.2.1 hd) _ k) r
theorem Go.ldc2Long (K : Cx Z own bytes maxL ret mn p s m meth c) (hq : pc + 3 = q) {i : Nat} {v : Int64} (w : (Cond.constantLong own i v).before a0 Z = true) (hd : decode bytes pc = .ok (.ldc2_w i, 3)) (r : Go p l e R s m args below meth c n0 kc ks Q h cells slots (mkF m q L (.long v :: S))) : Go p l e R s m args below meth c n0 kc ks Q h cells slots (mkF m pc L S) := Go.of_step (fun T locs X _ t k => by subst hq; exact X.ldc2Long K.1 K.2.2.1 (mvT K.2.1 w) (g := mkF m pc L S) rfl (hb K.2.2.2.1 hd) _ k) r
theorem Go.iadd (K : Cx Z own bytes maxL ret mn p s m meth c) (hq : pc + 1 = q) {x y : Int32} (hd : decode bytes pc = .ok (.iadd, 1)) (r : Go p l e R s m args below meth c n0 kc ks Q h cells slots (mkF m q L (.int (x + y) :: S))) : Go p l e R s m args below meth c n0 kc ks Q h cells slots (mkF m pc L (.int y :: .int x :: S)) := Go.of_step (fun T locs X _ t k => by subst hq; exact XS.iadd (g := mkF m pc L (.int y :: .int x :: S)) X.here K.1 rfl (hb K.2.2.2.1 hd) rfl k) r
theorem Go.isub (K : Cx Z own bytes maxL ret mn p s m meth c) (hq : pc + 1 = q) {x y : Int32} (hd : decode bytes pc = .ok (.isub, 1)) (r : Go p l e R s m args below meth c n0 kc ks Q h cells slots (mkF m q L (.int (x - y) :: S))) : Go p l e R s m args below meth c n0 kc ks Q h cells slots (mkF m pc L (.int y :: .int x :: S)) := Go.of_step (fun T locs X _ t k => by subst hq; exact XS.isub (g := mkF m pc L (.int y :: .int x :: S)) X.here K.1 rfl (hb K.2.2.2.1 hd) rfl k) r
theorem Go.imul (K : Cx Z own bytes maxL ret mn p s m meth c) (hq : pc + 1 = q) {x y : Int32} (hd : decode bytes pc = .ok (.imul, 1)) (r : Go p l e R s m args below meth c n0 kc ks Q h cells slots (mkF m q L (.int (x * y) :: S))) : Go p l e R s m args below meth c n0 kc ks Q h cells slots (mkF m pc L (.int y :: .int x :: S)) := Go.of_step (fun T locs X _ t k => by subst hq; exact XS.imul (g := mkF m pc L (.int y :: .int x :: S)) X.here K.1 rfl (hb K.2.2.2.1 hd) rfl k) r
theorem Go.iand (K : Cx Z own bytes maxL ret mn p s m meth c) (hq : pc + 1 = q) {x y : Int32} (hd : decode bytes pc = .ok (.iand, 1)) (r : Go p l e R s m args below meth c n0 kc ks Q h cells slots (mkF m q L (.int (x &&& y) :: S))) : Go p l e R s m args below meth c n0 kc ks Q h cells slots (mkF m pc L (.int y :: .int x :: S)) := Go.of_step (fun T locs X _ t k => by subst hq; exact XS.iand (g := mkF m pc L (.int y :: .int x :: S)) X.here K.1 rfl (hb K.2.2.2.1 hd) rfl k) r
theorem Go.ior (K : Cx Z own bytes maxL ret mn p s m meth c) (hq : pc + 1 = q) {x y : Int32} (hd : decode bytes pc = .ok (.ior, 1)) (r : Go p l e R s m args below meth c n0 kc ks Q h cells slots (mkF m q L (.int (x ||| y) :: S))) : Go p l e R s m args below meth c n0 kc ks Q h cells slots (mkF m pc L (.int y :: .int x :: S)) := Go.of_step (fun T locs X _ t k => by subst hq; exact XS.ior (g := mkF m pc L (.int y :: .int x :: S)) X.here K.1 rfl (hb K.2.2.2.1 hd) rfl k) r
theorem Go.ixor (K : Cx Z own bytes maxL ret mn p s m meth c) (hq : pc + 1 = q) {x y : Int32} (hd : decode bytes pc = .ok (.ixor, 1)) (r : Go p l e R s m args below meth c n0 kc ks Q h cells slots (mkF m q L (.int (x ^^^ y) :: S))) : Go p l e R s m args below meth c n0 kc ks Q h cells slots (mkF m pc L (.int y :: .int x :: S)) := Go.of_step (fun T locs X _ t k => by subst hq; exact XS.ixor (g := mkF m pc L (.int y :: .int x :: S)) X.here K.1 rfl (hb K.2.2.2.1 hd) rfl k) r
theorem Go.ishl (K : Cx Z own bytes maxL ret mn p s m meth c) (hq : pc + 1 = q) {x y : Int32} (hd : decode bytes pc = .ok (.ishl, 1)) (r : Go p l e R s m args below meth c n0 kc ks Q h cells slots (mkF m q L (.int (x <<< (y &&& 31)) :: S))) : Go p l e R s m args below meth c n0 kc ks Q h cells slots (mkF m pc L (.int y :: .int x :: S)) := Go.of_step (fun T locs X _ t k => by subst hq; exact XS.ishl (g := mkF m pc L (.int y :: .int x :: S)) X.here K.1 rfl (hb K.2.2.2.1 hd) rfl k) r
theorem Go.ishr (K : Cx Z own bytes maxL ret mn p s m meth c) (hq : pc + 1 = q) {x y : Int32} (hd : decode bytes pc = .ok (.ishr, 1)) (r : Go p l e R s m args below meth c n0 kc ks Q h cells slots (mkF m q L (.int (x >>> (y &&& 31)) :: S))) : Go p l e R s m args below meth c n0 kc ks Q h cells slots (mkF m pc L (.int y :: .int x :: S)) := Go.of_step (fun T locs X _ t k => by subst hq; exact XS.ishr (g := mkF m pc L (.int y :: .int x :: S)) X.here K.1 rfl (hb K.2.2.2.1 hd) rfl k) r
theorem Go.iushr (K : Cx Z own bytes maxL ret mn p s m meth c) (hq : pc + 1 = q) {x y : Int32} (hd : decode bytes pc = .ok (.iushr, 1)) (r : Go p l e R s m args below meth c n0 kc ks Q h cells slots (mkF m q L (.int ((x.toUInt32 >>> (y &&& 31).toUInt32).toInt32) :: S))) : Go p l e R s m args below meth c n0 kc ks Q h cells slots (mkF m pc L (.int y :: .int x :: S)) := Go.of_step (fun T locs X _ t k => by subst hq; exact XS.iushr (g := mkF m pc L (.int y :: .int x :: S)) X.here K.1 rfl (hb K.2.2.2.1 hd) rfl k) r
theorem Go.ladd (K : Cx Z own bytes maxL ret mn p s m meth c) (hq : pc + 1 = q) {x y : Int64} (hd : decode bytes pc = .ok (.ladd, 1)) (r : Go p l e R s m args below meth c n0 kc ks Q h cells slots (mkF m q L (.long (x + y) :: S))) : Go p l e R s m args below meth c n0 kc ks Q h cells slots (mkF m pc L (.long y :: .long x :: S)) := Go.of_step (fun T locs X _ t k => by subst hq; exact XS.ladd (g := mkF m pc L (.long y :: .long x :: S)) X.here K.1 rfl (hb K.2.2.2.1 hd) rfl k) r
theorem Go.lsub (K : Cx Z own bytes maxL ret mn p s m meth c) (hq : pc + 1 = q) {x y : Int64} (hd : decode bytes pc = .ok (.lsub, 1)) (r : Go p l e R s m args below meth c n0 kc ks Q h cells slots (mkF m q L (.long (x - y) :: S))) : Go p l e R s m args below meth c n0 kc ks Q h cells slots (mkF m pc L (.long y :: .long x :: S)) := Go.of_step (fun T locs X _ t k => by subst hq; exact XS.lsub (g := mkF m pc L (.long y :: .long x :: S)) X.here K.1 rfl (hb K.2.2.2.1 hd) rfl k) r
theorem Go.lmul (K : Cx Z own bytes maxL ret mn p s m meth c) (hq : pc + 1 = q) {x y : Int64} (hd : decode bytes pc = .ok (.lmul, 1)) (r : Go p l e R s m args below meth c n0 kc ks Q h cells slots (mkF m q L (.long (x * y) :: S))) : Go p l e R s m args below meth c n0 kc ks Q h cells slots (mkF m pc L (.long y :: .long x :: S)) := Go.of_step (fun T locs X _ t k => by subst hq; exact XS.lmul (g := mkF m pc L (.long y :: .long x :: S)) X.here K.1 rfl (hb K.2.2.2.1 hd) rfl k) r
theorem Go.land (K : Cx Z own bytes maxL ret mn p s m meth c) (hq : pc + 1 = q) {x y : Int64} (hd : decode bytes pc = .ok (.land, 1)) (r : Go p l e R s m args below meth c n0 kc ks Q h cells slots (mkF m q L (.long (x &&& y) :: S))) : Go p l e R s m args below meth c n0 kc ks Q h cells slots (mkF m pc L (.long y :: .long x :: S)) := Go.of_step (fun T locs X _ t k => by subst hq; exact XS.land (g := mkF m pc L (.long y :: .long x :: S)) X.here K.1 rfl (hb K.2.2.2.1 hd) rfl k) r
theorem Go.lor (K : Cx Z own bytes maxL ret mn p s m meth c) (hq : pc + 1 = q) {x y : Int64} (hd : decode bytes pc = .ok (.lor, 1)) (r : Go p l e R s m args below meth c n0 kc ks Q h cells slots (mkF m q L (.long (x ||| y) :: S))) : Go p l e R s m args below meth c n0 kc ks Q h cells slots (mkF m pc L (.long y :: .long x :: S)) := Go.of_step (fun T locs X _ t k => by subst hq; exact XS.lor (g := mkF m pc L (.long y :: .long x :: S)) X.here K.1 rfl (hb K.2.2.2.1 hd) rfl k) r
theorem Go.lxor (K : Cx Z own bytes maxL ret mn p s m meth c) (hq : pc + 1 = q) {x y : Int64} (hd : decode bytes pc = .ok (.lxor, 1)) (r : Go p l e R s m args below meth c n0 kc ks Q h cells slots (mkF m q L (.long (x ^^^ y) :: S))) : Go p l e R s m args below meth c n0 kc ks Q h cells slots (mkF m pc L (.long y :: .long x :: S)) := Go.of_step (fun T locs X _ t k => by subst hq; exact XS.lxor (g := mkF m pc L (.long y :: .long x :: S)) X.here K.1 rfl (hb K.2.2.2.1 hd) rfl k) r
theorem Go.lshl (K : Cx Z own bytes maxL ret mn p s m meth c) (hq : pc + 1 = q) {x : Int64} {y : Int32} (hd : decode bytes pc = .ok (.lshl, 1)) (r : Go p l e R s m args below meth c n0 kc ks Q h cells slots (mkF m q L (.long (x <<< (y &&& 0x3f).toInt64) :: S))) : Go p l e R s m args below meth c n0 kc ks Q h cells slots (mkF m pc L (.int y :: .long x :: S)) := Go.of_step (fun T locs X _ t k => by subst hq; exact XS.lshl (g := mkF m pc L (.int y :: .long x :: S)) X.here K.1 rfl (hb K.2.2.2.1 hd) rfl k) r
theorem Go.lshr (K : Cx Z own bytes maxL ret mn p s m meth c) (hq : pc + 1 = q) {x : Int64} {y : Int32} (hd : decode bytes pc = .ok (.lshr, 1)) (r : Go p l e R s m args below meth c n0 kc ks Q h cells slots (mkF m q L (.long (x >>> (y &&& 0x3f).toInt64) :: S))) : Go p l e R s m args below meth c n0 kc ks Q h cells slots (mkF m pc L (.int y :: .long x :: S)) := Go.of_step (fun T locs X _ t k => by subst hq; exact XS.lshr (g := mkF m pc L (.int y :: .long x :: S)) X.here K.1 rfl (hb K.2.2.2.1 hd) rfl k) r
theorem Go.lushr (K : Cx Z own bytes maxL ret mn p s m meth c) (hq : pc + 1 = q) {x : Int64} {y : Int32} (hd : decode bytes pc = .ok (.lushr, 1)) (r : Go p l e R s m args below meth c n0 kc ks Q h cells slots (mkF m q L (.long ((x.toUInt64 >>> (y &&& 0x3f).toInt64.toUInt64).toInt64) :: S))) : Go p l e R s m args below meth c n0 kc ks Q h cells slots (mkF m pc L (.int y :: .long x :: S)) := Go.of_step (fun T locs X _ t k => by subst hq; exact XS.lushr (g := mkF m pc L (.int y :: .long x :: S)) X.here K.1 rfl (hb K.2.2.2.1 hd) rfl k) r
theorem Go.lcmp (K : Cx Z own bytes maxL ret mn p s m meth c) (hq : pc + 1 = q) {x y : Int64} (hd : decode bytes pc = .ok (.lcmp, 1)) (r : Go p l e R s m args below meth c n0 kc ks Q h cells slots (mkF m q L (.int (lcmpW x y) :: S))) : Go p l e R s m args below meth c n0 kc ks Q h cells slots (mkF m pc L (.long y :: .long x :: S)) := Go.of_step (fun T locs X _ t k => by subst hq; exact XS.lcmp (g := mkF m pc L (.long y :: .long x :: S)) X.here K.1 rfl (hb K.2.2.2.1 hd) rfl k) r
theorem Go.ineg (K : Cx Z own bytes maxL ret mn p s m meth c) (hq : pc + 1 = q) {x : Int32} (hd : decode bytes pc = .ok (.ineg, 1)) (r : Go p l e R s m args below meth c n0 kc ks Q h cells slots (mkF m q L (.int (-x) :: S))) : Go p l e R s m args below meth c n0 kc ks Q h cells slots (mkF m pc L (.int x :: S)) := Go.of_step (fun T locs X _ t k => by subst hq; exact XS.ineg (g := mkF m pc L (.int x :: S)) X.here K.1 rfl (hb K.2.2.2.1 hd) rfl k) r
theorem Go.i2l (K : Cx Z own bytes maxL ret mn p s m meth c) (hq : pc + 1 = q) {x : Int32} (hd : decode bytes pc = .ok (.i2l, 1)) (r : Go p l e R s m args below meth c n0 kc ks Q h cells slots (mkF m q L (.long x.toInt64 :: S))) : Go p l e R s m args below meth c n0 kc ks Q h cells slots (mkF m pc L (.int x :: S)) := Go.of_step (fun T locs X _ t k => by subst hq; exact XS.i2l (g := mkF m pc L (.int x :: S)) X.here K.1 rfl (hb K.2.2.2.1 hd) rfl k) r
theorem Go.l2i (K : Cx Z own bytes maxL ret mn p s m meth c) (hq : pc + 1 = q) {x : Int64} (hd : decode bytes pc = .ok (.l2i, 1)) (r : Go p l e R s m args below meth c n0 kc ks Q h cells slots (mkF m q L (.int x.toInt32 :: S))) : Go p l e R s m args below meth c n0 kc ks Q h cells slots (mkF m pc L (.long x :: S)) := Go.of_step (fun T locs X _ t k => by subst hq; exact XS.l2i (g := mkF m pc L (.long x :: S)) X.here K.1 rfl (hb K.2.2.2.1 hd) rfl k) r
theorem Go.i2b (K : Cx Z own bytes maxL ret mn p s m meth c) (hq : pc + 1 = q) {x : Int32} (hd : decode bytes pc = .ok (.i2b, 1)) (r : Go p l e R s m args below meth c n0 kc ks Q h cells slots (mkF m q L (.int x.toInt8.toInt32 :: S))) : Go p l e R s m args below meth c n0 kc ks Q h cells slots (mkF m pc L (.int x :: S)) := Go.of_step (fun T locs X _ t k => by subst hq; exact XS.i2b (g := mkF m pc L (.int x :: S)) X.here K.1 rfl (hb K.2.2.2.1 hd) rfl k) r
theorem Go.i2s (K : Cx Z own bytes maxL ret mn p s m meth c) (hq : pc + 1 = q) {x : Int32} (hd : decode bytes pc = .ok (.i2s, 1)) (r : Go p l e R s m args below meth c n0 kc ks Q h cells slots (mkF m q L (.int x.toInt16.toInt32 :: S))) : Go p l e R s m args below meth c n0 kc ks Q h cells slots (mkF m pc L (.int x :: S)) := Go.of_step (fun T locs X _ t k => by subst hq; exact XS.i2s (g := mkF m pc L (.int x :: S)) X.here K.1 rfl (hb K.2.2.2.1 hd) rfl k) r
theorem Go.i2c (K : Cx Z own bytes maxL ret mn p s m meth c) (hq : pc + 1 = q) {x : Int32} (hd : decode bytes pc = .ok (.i2c, 1)) (r : Go p l e R s m args below meth c n0 kc ks Q h cells slots (mkF m q L (.int x.toUInt32.toUInt16.toUInt32.toInt32 :: S))) : Go p l e R s m args below meth c n0 kc ks Q h cells slots (mkF m pc L (.int x :: S)) := Go.of_step (fun T locs X _ t k => by subst hq; exact XS.i2c (g := mkF m pc L (.int x :: S)) X.here K.1 rfl (hb K.2.2.2.1 hd) rfl k) r
theorem Go.irem (K : Cx Z own bytes maxL ret mn p s m meth c) (hq : pc + 1 = q) {x y : Int32} (hd : decode bytes pc = .ok (.irem, 1)) (hy : y ≠ 0) (r : Go p l e R s m args below meth c n0 kc ks Q h cells slots (mkF m q L (.int (x % y) :: S))) : Go p l e R s m args below meth c n0 kc ks Q h cells slots (mkF m pc L (.int y :: .int x :: S)) := Go.of_step (fun T locs X _ t k => by subst hq; exact iremM (g := mkF m pc L (.int y :: .int x :: S)) X K.1 rfl (hb K.2.2.2.1 hd) rfl hy k) r
theorem Go.idiv (K : Cx Z own bytes maxL ret mn p s m meth c) (hq : pc + 1 = q) {x y : Int32} (hd : decode bytes pc = .ok (.idiv, 1)) (hy : y ≠ 0) (r : Go p l e R s m args below meth c n0 kc ks Q h cells slots (mkF m q L (.int (x / y) :: S))) : Go p l e R s m args below meth c n0 kc ks Q h cells slots (mkF m pc L (.int y :: .int x :: S)) := Go.of_step (fun T locs X _ t k => by subst hq; exact XS.idiv (g := mkF m pc L (.int y :: .int x :: S)) X.here K.1 rfl (hb K.2.2.2.1 hd) rfl hy k) r
theorem Go.dup (K : Cx Z own bytes maxL ret mn p s m meth c) (hq : pc + 1 = q) {x : Value} (hd : decode bytes pc = .ok (.dup, 1)) (hc : x.category = 1) (r : Go p l e R s m args below meth c n0 kc ks Q h cells slots (mkF m q L (x :: x :: S))) : Go p l e R s m args below meth c n0 kc ks Q h cells slots (mkF m pc L (x :: S)) := Go.of_step (fun T locs X _ t k => by subst hq; exact XS.dup (g := mkF m pc L (x :: S)) X.here K.1 rfl (hb K.2.2.2.1 hd) rfl hc k) r
theorem Go.dupX1 (K : Cx Z own bytes maxL ret mn p s m meth c) (hq : pc + 1 = q) {x y : Value} (hd : decode bytes pc = .ok (.dup_x1, 1)) (hc : x.category = 1) (hc' : y.category = 1) (r : Go p l e R s m args below meth c n0 kc ks Q h cells slots (mkF m q L (x :: y :: x :: S))) : Go p l e R s m args below meth c n0 kc ks Q h cells slots (mkF m pc L (x :: y :: S)) := Go.of_step (fun T locs X _ t k => by subst hq; exact XS.dupX1 (g := mkF m pc L (x :: y :: S)) X.here K.1 rfl (hb K.2.2.2.1 hd) rfl hc hc' k) r
theorem Go.pop (K : Cx Z own bytes maxL ret mn p s m meth c) (hq : pc + 1 = q) {x : Value} (hd : decode bytes pc = .ok (.pop, 1)) (hc : x.category = 1) (r : Go p l e R s m args below meth c n0 kc ks Q h cells slots (mkF m q L S)) : Go p l e R s m args below meth c n0 kc ks Q h cells slots (mkF m pc L (x :: S)) := Go.of_step (fun T locs X _ t k => by subst hq; exact XS.pop (g := mkF m pc L (x :: S)) X.here K.1 rfl (hb K.2.2.2.1 hd) rfl hc k) r
theorem Go.istoreN (K : Cx Z own bytes maxL ret mn p s m meth c) (hq : pc + 1 = q) {k : Fin 4} {x : Int32} {L' : Array Slot} (hd : decode bytes pc = .ok (.istore_n k, 1)) (hl : storeLocals L k.val (.int x) = some L') (r : Go p l e R s m args below meth c n0 kc ks Q h cells slots (mkF m q L' S)) : Go p l e R s m args below meth c n0 kc ks Q h cells slots (mkF m pc L (.int x :: S)) := Go.of_step (fun T locs X _ t k => by subst hq; exact XS.istoreN (g := mkF m pc L (.int x :: S)) X.here K.1 rfl (hb K.2.2.2.1 hd) rfl hl k) r
theorem Go.istore (K : Cx Z own bytes maxL ret mn p s m meth c) (hq : pc + 2 = q) {k : Nat} {x : Int32} {L' : Array Slot} (hd : decode bytes pc = .ok (.istore k, 2)) (hl : storeLocals L k (.int x) = some L') (r : Go p l e R s m args below meth c n0 kc ks Q h cells slots (mkF m q L' S)) : Go p l e R s m args below meth c n0 kc ks Q h cells slots (mkF m pc L (.int x :: S)) := Go.of_step (fun T locs X _ t k => by subst hq; exact XS.istore (g := mkF m pc L (.int x :: S)) X.here K.1 rfl (hb K.2.2.2.1 hd) rfl hl k) r
theorem Go.lstoreN (K : Cx Z own bytes maxL ret mn p s m meth c) (hq : pc + 1 = q) {k : Fin 4} {x : Int64} {L' : Array Slot} (hd : decode bytes pc = .ok (.lstore_n k, 1)) (hl : storeLocals L k.val (.long x) = some L') (r : Go p l e R s m args below meth c n0 kc ks Q h cells slots (mkF m q L' S)) : Go p l e R s m args below meth c n0 kc ks Q h cells slots (mkF m pc L (.long x :: S)) := Go.of_step (fun T locs X _ t k => by subst hq; exact XS.lstoreN (g := mkF m pc L (.long x :: S)) X.here K.1 rfl (hb K.2.2.2.1 hd) rfl hl k) r
theorem Go.lstore (K : Cx Z own bytes maxL ret mn p s m meth c) (hq : pc + 2 = q) {k : Nat} {x : Int64} {L' : Array Slot} (hd : decode bytes pc = .ok (.lstore k, 2)) (hl : storeLocals L k (.long x) = some L') (r : Go p l e R s m args below meth c n0 kc ks Q h cells slots (mkF m q L' S)) : Go p l e R s m args below meth c n0 kc ks Q h cells slots (mkF m pc L (.long x :: S)) := Go.of_step (fun T locs X _ t k => by subst hq; exact XS.lstore (g := mkF m pc L (.long x :: S)) X.here K.1 rfl (hb K.2.2.2.1 hd) rfl hl k) r
theorem Go.astoreN (K : Cx Z own bytes maxL ret mn p s m meth c) (hq : pc + 1 = q) {k : Fin 4} {x : Value} {L' : Array Slot} (hd : decode bytes pc = .ok (.astore_n k, 1)) (hv : x.isRef = true) (hl : storeLocals L k.val x = some L') (r : Go p l e R s m args below meth c n0 kc ks Q h cells slots (mkF m q L' S)) : Go p l e R s m args below meth c n0 kc ks Q h cells slots (mkF m pc L (x :: S)) := Go.of_step (fun T locs X _ t k => by subst hq; exact XS.astoreN (g := mkF m pc L (x :: S)) X.here K.1 rfl (hb K.2.2.2.1 hd) rfl hv hl k) r
theorem Go.astore (K : Cx Z own bytes maxL ret mn p s m meth c) (hq : pc + 2 = q) {k : Nat} {x : Value} {L' : Array Slot} (hd : decode bytes pc = .ok (.astore k, 2)) (hv : x.isRef = true) (hl : storeLocals L k x = some L') (r : Go p l e R s m args below meth c n0 kc ks Q h cells slots (mkF m q L' S)) : Go p l e R s m args below meth c n0 kc ks Q h cells slots (mkF m pc L (x :: S)) := Go.of_step (fun T locs X _ t k => by subst hq; exact XS.astore (g := mkF m pc L (x :: S)) X.here K.1 rfl (hb K.2.2.2.1 hd) rfl hv hl k) r
theorem Go.iinc (K : Cx Z own bytes maxL ret mn p s m meth c) (hq : pc + 3 = q) {k : Nat} {cst : Int} {x y : Int32} {L' : Array Slot} (hy : Int32.ofInt cst = y) (hd : decode bytes pc = .ok (.iinc k cst, 3)) (hl0 : L[k]? = some (.val (.int x))) (hl : storeLocals L k (.int (x + y)) = some L') (r : Go p l e R s m args below meth c n0 kc ks Q h cells slots (mkF m q L' S)) : Go p l e R s m args below meth c n0 kc ks Q h cells slots (mkF m pc L S) := Go.of_step (fun T locs X _ t k => by subst hq hy; exact XS.iinc (g := mkF m pc L S) X.here K.1 rfl (hb K.2.2.2.1 hd) hl0 hl k) r
theorem Go.goto (K : Cx Z own bytes maxL ret mn p s m meth c) {o : Int} (ho : 0 ≤ (pc : Int) + o) (hq : ((pc : Int) + o).toNat = q) (hd : decode bytes pc = .ok (.goto o, 3)) (r : Go p l e R s m args below meth c n0 kc ks Q h cells slots (mkF m q L S)) : Go p l e R s m args below meth c n0 kc ks Q h cells slots (mkF m pc L S) := Go.of_step (fun T locs X _ t k => XS.goto (g := mkF m pc L S) X.here K.1 rfl (pc0 := pc) (pc' := q) rfl (hb K.2.2.2.1 hd) ho hq k) r
theorem Go.ifY (K : Cx Z own bytes maxL ret mn p s m meth c) {o : Int} {cd : ClassFile.Cond} {x : Int32} (ho : 0 ≤ (pc : Int) + o) (hq : ((pc : Int) + o).toNat = q) (hd : decode bytes pc = .ok (.ifCond cd o, 3)) (hc : cdP cd x 0) (r : Go p l e R s m args below meth c n0 kc ks Q h cells slots (mkF m q L S)) : Go p l e R s m args below meth c n0 kc ks Q h cells slots (mkF m pc L (.int x :: S)) := Go.of_step (fun T locs X _ t k => XS.ifYes (g := mkF m pc L (.int x :: S)) X.here K.1 rfl (pc0 := pc) (pc' := q) rfl (hb K.2.2.2.1 hd) rfl ((if0 _ _).trans (cd_yes hc)) ho hq k) r
theorem Go.ifN (K : Cx Z own bytes maxL ret mn p s m meth c) {o : Int} {cd : ClassFile.Cond} {x : Int32} (hq : pc + 3 = q) (hd : decode bytes pc = .ok (.ifCond cd o, 3)) (hc : cdN cd x 0) (r : Go p l e R s m args below meth c n0 kc ks Q h cells slots (mkF m q L S)) : Go p l e R s m args below meth c n0 kc ks Q h cells slots (mkF m pc L (.int x :: S)) := Go.of_step (fun T locs X _ t k => by subst hq; exact XS.ifNo (g := mkF m pc L (.int x :: S)) X.here K.1 rfl (hb K.2.2.2.1 hd) rfl ((if0 _ _).trans (cd_no hc)) k) r
theorem Go.icmpY (K : Cx Z own bytes maxL ret mn p s m meth c) {o : Int} {cd : ClassFile.Cond} {x y : Int32} (ho : 0 ≤ (pc : Int) + o) (hq : ((pc : Int) + o).toNat = q) (hd : decode bytes pc = .ok (.if_icmp cd o, 3)) (hc : cdP cd x y) (r : Go p l e R s m args below meth c n0 kc ks Q h cells slots (mkF m q L S)) : Go p l e R s m args below meth c n0 kc ks Q h cells slots (mkF m pc L (.int y :: .int x :: S)) := Go.of_step (fun T locs X _ t k => XS.icmpYes (g := mkF m pc L (.int y :: .int x :: S)) X.here K.1 rfl (pc0 := pc) (pc' := q) rfl (hb K.2.2.2.1 hd) rfl (cd_yes hc) ho hq k) r
theorem Go.icmpN (K : Cx Z own bytes maxL ret mn p s m meth c) {o : Int} {cd : ClassFile.Cond} {x y : Int32} (hq : pc + 3 = q) (hd : decode bytes pc = .ok (.if_icmp cd o, 3)) (hc : cdN cd x y) (r : Go p l e R s m args below meth c n0 kc ks Q h cells slots (mkF m q L S)) : Go p l e R s m args below meth c n0 kc ks Q h cells slots (mkF m pc L (.int y :: .int x :: S)) := Go.of_step (fun T locs X _ t k => by subst hq; exact XS.icmpNo (g := mkF m pc L (.int y :: .int x :: S)) X.here K.1 rfl (hb K.2.2.2.1 hd) rfl (cd_no hc) k) r
theorem Go.ifc (K : Cx Z own bytes maxL ret mn p s m meth c) {o : Int} {cd : ClassFile.Cond} {x : Int32} {q' : Nat} (ho : 0 ≤ (pc : Int) + o) (hq : ((pc : Int) + o).toNat = q) (hq' : pc + 3 = q') (hd : decode bytes pc = .ok (.ifCond cd o, 3)) (r : cdP cd x 0 → Go p l e R s m args below meth c n0 kc ks Q h cells slots (mkF m q L S)) (r' : cdN cd x 0 → Go p l e R s m args below meth c n0 kc ks Q h cells slots (mkF m q' L S)) : Go p l e R s m args below meth c n0 kc ks Q h cells slots (mkF m pc L (.int x :: S)) :=
  (cd_em cd x 0).elim (fun hc => Go.ifY K ho hq hd hc (r hc)) (fun hc => Go.ifN K hq' hd hc (r' hc))
theorem Go.icmp (K : Cx Z own bytes maxL ret mn p s m meth c) {o : Int} {cd : ClassFile.Cond} {x y : Int32} {q' : Nat} (ho : 0 ≤ (pc : Int) + o) (hq : ((pc : Int) + o).toNat = q) (hq' : pc + 3 = q') (hd : decode bytes pc = .ok (.if_icmp cd o, 3)) (r : cdP cd x y → Go p l e R s m args below meth c n0 kc ks Q h cells slots (mkF m q L S)) (r' : cdN cd x y → Go p l e R s m args below meth c n0 kc ks Q h cells slots (mkF m q' L S)) : Go p l e R s m args below meth c n0 kc ks Q h cells slots (mkF m pc L (.int y :: .int x :: S)) :=
  (cd_em cd x y).elim (fun hc => Go.icmpY K ho hq hd hc (r hc)) (fun hc => Go.icmpN K hq' hd hc (r' hc))
theorem Go.ifnullY (K : Cx Z own bytes maxL ret mn p s m meth c) {o : Int} (ho : 0 ≤ (pc : Int) + o) (hq : ((pc : Int) + o).toNat = q) (hd : decode bytes pc = .ok (.ifnull o, 3)) (r : Go p l e R s m args below meth c n0 kc ks Q h cells slots (mkF m q L S)) : Go p l e R s m args below meth c n0 kc ks Q h cells slots (mkF m pc L (.null :: S)) := Go.of_step (fun T locs X _ t k => XS.ifnullYes (g := mkF m pc L (.null :: S)) X.here K.1 rfl (pc0 := pc) (pc' := q) rfl (hb K.2.2.2.1 hd) rfl ho hq k) r
theorem Go.ifnullN (K : Cx Z own bytes maxL ret mn p s m meth c) {o : Int} {b : Addr} (hq : pc + 3 = q) (hd : decode bytes pc = .ok (.ifnull o, 3)) (r : Go p l e R s m args below meth c n0 kc ks Q h cells slots (mkF m q L S)) : Go p l e R s m args below meth c n0 kc ks Q h cells slots (mkF m pc L (.ref b :: S)) := Go.of_step (fun T locs X _ t k => by subst hq; exact XS.ifnullNo (g := mkF m pc L (.ref b :: S)) X.here K.1 rfl (hb K.2.2.2.1 hd) rfl k) r
theorem Go.ifnonnullY (K : Cx Z own bytes maxL ret mn p s m meth c) {o : Int} {b : Addr} (ho : 0 ≤ (pc : Int) + o) (hq : ((pc : Int) + o).toNat = q) (hd : decode bytes pc = .ok (.ifnonnull o, 3)) (r : Go p l e R s m args below meth c n0 kc ks Q h cells slots (mkF m q L S)) : Go p l e R s m args below meth c n0 kc ks Q h cells slots (mkF m pc L (.ref b :: S)) := Go.of_step (fun T locs X _ t k => XS.ifnonnullYes (g := mkF m pc L (.ref b :: S)) X.here K.1 rfl (pc0 := pc) (pc' := q) rfl (hb K.2.2.2.1 hd) rfl ho hq k) r
theorem Go.ifnonnullN (K : Cx Z own bytes maxL ret mn p s m meth c) {o : Int} (hq : pc + 3 = q) (hd : decode bytes pc = .ok (.ifnonnull o, 3)) (r : Go p l e R s m args below meth c n0 kc ks Q h cells slots (mkF m q L S)) : Go p l e R s m args below meth c n0 kc ks Q h cells slots (mkF m pc L (.null :: S)) := Go.of_step (fun T locs X _ t k => by subst hq; exact XS.ifnonnullNo (g := mkF m pc L (.null :: S)) X.here K.1 rfl (hb K.2.2.2.1 hd) rfl k) r
theorem Go.acmp (K : Cx Z own bytes maxL ret mn p s m meth c) {o : Int} {cd : ACond} {x y : Value} (h1 : x.isRef = true) (h2 : y.isRef = true) {same : Bool} (hs : decide (x = y) = same) (ho : 0 ≤ (pc : Int) + o) (hq : q = if acV cd same = true then ((pc : Int) + o).toNat else pc + 3) (hd : decode bytes pc = .ok (.if_acmp cd o, 3)) (r : Go p l e R s m args below meth c n0 kc ks Q h cells slots (mkF m q L S)) : Go p l e R s m args below meth c n0 kc ks Q h cells slots (mkF m pc L (y :: x :: S)) := Go.of_step (fun T locs X _ t k => Jvm.RoadKit.acmp (g := mkF m pc L (y :: x :: S)) X K.1 rfl h1 h2 (pc0 := pc) (pc' := q) rfl (hb K.2.2.2.1 hd) rfl hs ho hq k) r
/-! ends -/
theorem Go.end_ {pc : Nat} {f : JFrame} (K : Cx Z own bytes maxL ret mn p s m meth c) {v : Option Value} (hv : ret = none → v = none) (hk : cells ≤ kc) (hs : slots ≤ ks) (hQ : Q v h)
    (st : ∀ T locs, Stand p l e R s m args below meth c T locs cells slots → ∀ fs, (∀ (f : JFrame) (acts : List Action), f.method = m → f.locked = none → f.entered = [] → (doReturn e (T.setTop f) acts v).1 = T.setFrames fs) → Steps p.tables e below (T.setTop f) (T.setFrames fs)) : Go p l e R s m args below meth c n0 kc ks Q h cells slots f := fun T locs X eT N => by
  obtain ⟨fs, hr, hrun, hended, hW, hsame⟩ := X.leave (v := v) (fun q => hv (K.2.2.2.2.2.1.symm.trans q)) K.2.2.2.2.2.2.1
  exact ⟨_, _, st T locs X fs hr, hrun, hended, v, locs, rfl, ⟨by show Q v T.heap; rw [eT]; exact hQ, N⟩, ⟨_, rfl⟩, hW, hsame.mono hk hs⟩
theorem Go.retV (K : Cx Z own bytes maxL none mn p s m meth c) (hd : decode bytes pc = .ok (.return_, 1)) (hk : cells ≤ kc) (hs : slots ≤ ks) (hQ : Q none h) : Go p l e R s m args below meth c n0 kc ks Q h cells slots (mkF m pc L []) :=
  Go.end_ (pc := pc) K (fun _ => rfl) hk hs hQ fun T locs X fs hr => X.returnOut K.1 K.2.2.2.2.2.1 (hb K.2.2.2.1 hd) hr
theorem Go.retN {t : FieldType} {z : Int32} (K : Cx Z own bytes maxL (some t) mn p s m meth c) (ht : t = .boolean ∨ t = .byte ∨ t = .char ∨ t = .short) (hd : decode bytes pc = .ok (.ireturn, 1)) (hk : cells ≤ kc) (hs : slots ≤ ks) (hQ : Q (some (.int (nar t z))) h) : Go p l e R s m args below meth c n0 kc ks Q h cells slots (mkF m pc L (.int z :: S)) :=
  Go.end_ (pc := pc) K (fun q => by cases q) hk hs hQ fun T locs X fs hr => Jvm.RoadKit.retN X K.1 K.2.2.2.2.2.1 ht (hb K.2.2.2.1 hd) hr
theorem Go.retI {z : Int32} (K : Cx Z own bytes maxL (some .int) mn p s m meth c) (hd : decode bytes pc = .ok (.ireturn, 1)) (hk : cells ≤ kc) (hs : slots ≤ ks) (hQ : Q (some (.int z)) h) : Go p l e R s m args below meth c n0 kc ks Q h cells slots (mkF m pc L [.int z]) :=
  Go.end_ (pc := pc) K (fun q => by cases q) hk hs hQ fun T locs X fs hr => X.ireturnOut K.1 K.2.2.2.2.2.1 rfl (Or.inl rfl) (hb K.2.2.2.1 hd) hr
theorem Go.retA {t : FieldType} {w : Value} (K : Cx Z own bytes maxL (some t) mn p s m meth c) (ht : t.isReference = true) (hw : w.isRef = true) (hd : decode bytes pc = .ok (.areturn, 1)) (hk : cells ≤ kc) (hs : slots ≤ ks) (hQ : Q (some w) h) : Go p l e R s m args below meth c n0 kc ks Q h cells slots (mkF m pc L [w]) :=
  Go.end_ (pc := pc) K (fun q => by cases q) hk hs hQ fun T locs X fs hr => X.areturnOut K.1 hw K.2.2.2.2.2.1 ht (hb K.2.2.2.1 hd) hr
theorem Go.retJ {z : Int64} (K : Cx Z own bytes maxL (some .long) mn p s m meth c) (hd : decode bytes pc = .ok (.lreturn, 1)) (hk : cells ≤ kc) (hs : slots ≤ ks) (hQ : Q (some (.long z)) h) : Go p l e R s m args below meth c n0 kc ks Q h cells slots (mkF m pc L [.long z]) :=
  Go.end_ (pc := pc) K (fun q => by cases q) hk hs hQ fun T locs X fs hr => X.lreturnOut K.1 K.2.2.2.2.2.1 (hb K.2.2.2.1 hd) hr
/-! the heap -/
theorem Go.getF (K : Cx Z own bytes maxL ret mn p s m meth c) (hq : pc + 3 = q) {R0 O n d : String} {i : Nat} (w : (Cond.fieldLink own i R0 n d).before a0 Z = true) (via : Via Z R0 O n d) {a : Addr} {v : Value} (F : Fld Z h a O n d v) (hd : decode bytes pc = .ok (.getfield i, 3)) (r : Go p l e R s m args below meth c n0 kc ks Q h cells slots (mkF m q L (v :: S))) : Go p l e R s m args below meth c n0 kc ks Q h cells slots (mkF m pc L (.ref a :: S)) :=
  Go.of_warm (fun T locs X eT => by subst hq; exact Jvm.RoadKit.getF X K.1 K.2.1 K.2.2.1 (host := "") (Or.inl w) via eT F (g := mkF m pc L (.ref a :: S)) rfl rfl (hb K.2.2.2.1 hd)) r
theorem Go.getS (K : Cx Z own bytes maxL ret mn p s m meth c) (hq : pc + 3 = q) {R0 O n d : String} {i : Nat} (w : (Cond.fieldLink own i R0 n d).before a0 Z = true) (via : Via Z R0 O n d) {v : Value} (F : Sta Z h O n d v) (hd : decode bytes pc = .ok (.getstatic i, 3)) (r : Go p l e R s m args below meth c n0 kc ks Q h cells slots (mkF m q L (v :: S))) : Go p l e R s m args below meth c n0 kc ks Q h cells slots (mkF m pc L S) :=
  Go.of_warm (fun T locs X eT => by subst hq; exact Jvm.RoadKit.getS (host := "") X K.1 K.2.1 K.2.2.1 w via eT F (g := mkF m pc L S) rfl (hb K.2.2.2.1 hd)) r
theorem Go.castY (K : Cx Z own bytes maxL ret mn p s m meth c) (hq : pc + 3 = q) {C : String} {i : Nat} (w : (Cond.classLink own i C).before a0 Z = true) {a : Addr} (F : Ins Z h a C true) (hd : decode bytes pc = .ok (.checkcast i, 3)) (r : Go p l e R s m args below meth c n0 kc ks Q h cells slots (mkF m q L (.ref a :: S))) : Go p l e R s m args below meth c n0 kc ks Q h cells slots (mkF m pc L (.ref a :: S)) :=
  Go.of_warm (fun T locs X eT => by subst hq; exact Jvm.RoadKit.castY X K.1 K.2.1 K.2.2.1 w eT F (g := mkF m pc L (.ref a :: S)) rfl rfl (hb K.2.2.2.1 hd)) r
theorem Go.instY (K : Cx Z own bytes maxL ret mn p s m meth c) (hq : pc + 3 = q) {C : String} {i : Nat} (w : (Cond.classLink own i C).before a0 Z = true) {a : Addr} (F : Ins Z h a C true) (hd : decode bytes pc = .ok (.instanceof i, 3)) (r : Go p l e R s m args below meth c n0 kc ks Q h cells slots (mkF m q L (.int 1 :: S))) : Go p l e R s m args below meth c n0 kc ks Q h cells slots (mkF m pc L (.ref a :: S)) :=
  Go.of_warm (fun T locs X eT => by subst hq; exact Jvm.RoadKit.instY X K.1 K.2.1 K.2.2.1 w eT F (g := mkF m pc L (.ref a :: S)) rfl rfl (hb K.2.2.2.1 hd)) r
theorem Go.instNo (K : Cx Z own bytes maxL ret mn p s m meth c) (hq : pc + 3 = q) {C D : String} {i : Nat} (w : (Cond.classLink own i D).before a0 Z = true) {a : Addr} (E : Exa Z h a C) (F : ∃ c t, Z.vm.findClass C = some c ∧ Z.vm.findClass D = some t ∧ Z.vm.assignable c t = false) (hd : decode bytes pc = .ok (.instanceof i, 3)) (r : Go p l e R s m args below meth c n0 kc ks Q h cells slots (mkF m q L (.int 0 :: S))) : Go p l e R s m args below meth c n0 kc ks Q h cells slots (mkF m pc L (.ref a :: S)) :=
  Go.of_warm (fun T locs X eT => by subst hq; exact Jvm.RoadKit.instNo X K.1 K.2.1 K.2.2.1 w eT E F (g := mkF m pc L (.ref a :: S)) rfl rfl (hb K.2.2.2.1 hd)) r
theorem Go.instNull (K : Cx Z own bytes maxL ret mn p s m meth c) (hq : pc + 3 = q) {i : Nat} (hd : decode bytes pc = .ok (.instanceof i, 3)) (r : Go p l e R s m args below meth c n0 kc ks Q h cells slots (mkF m q L (.int 0 :: S))) : Go p l e R s m args below meth c n0 kc ks Q h cells slots (mkF m pc L (.null :: S)) :=
  Go.of_step (fun T locs X _ t k => by subst hq; exact X.instanceofNull K.1 (g := mkF m pc L (.null :: S)) rfl rfl (hb K.2.2.2.1 hd) _ k) r
theorem Go.castNull (K : Cx Z own bytes maxL ret mn p s m meth c) (hq : pc + 3 = q) {i : Nat} (hd : decode bytes pc = .ok (.checkcast i, 3)) (r : Go p l e R s m args below meth c n0 kc ks Q h cells slots (mkF m q L (.null :: S))) : Go p l e R s m args below meth c n0 kc ks Q h cells slots (mkF m pc L (.null :: S)) :=
  Go.of_step (fun T locs X _ t k => by subst hq; exact X.checkcastNull K.1 (g := mkF m pc L (.null :: S)) rfl rfl (hb K.2.2.2.1 hd) _ k) r
theorem Go.putF (K : Cx Z own bytes maxL ret mn p s m meth c) (hq : pc + 3 = q) {R0 O n d C : String} {i kk : Nat} {ty : FieldType} (w : (Cond.fieldLink own i R0 n d).before a0 Z = true) (via : Via Z R0 O n d) {a : Addr} {v old : Value} (F : Fld Z h a O n d old) (E : Exa Z h a C) (Ly : (Cond.lays C O n d).before a0 Z = true ∨ ((Cond.laysFinal C O n d).before a0 Z = true ∧ own = O ∧ mn = "<init>")) (wi : (Cond.instantiable C kk).before a0 Z = true)
    (hty : parseFieldDescriptor d = some ty) (hn : narrow ty v = v) (hf : fits ty v = true) (hd : decode bytes pc = .ok (.putfield i, 3)) (ha : n0 ≤ a) (r : ∀ h', Wr h h' a (Jvm.RoadKit.slotOf Z O n d) v → Fld Z h' a O n d v → Exa Z h' a C → Go p l e R s m args below meth c n0 kc ks Q h' cells slots (mkF m q L S)) : Go p l e R s m args below meth c n0 kc ks Q h cells slots (mkF m pc L (v :: .ref a :: S)) := fun T locs X eT N => by
  subst hq
  obtain ⟨T', h', X', eT', W, st⟩ := Jvm.RoadKit.putF X K.1 K.2.1 K.2.2.1 (host := "") (Or.inl w) via eT F E (Ly.imp id fun z => ⟨z.1, z.2.1, K.2.2.2.2.2.2.2.trans z.2.2⟩) wi hty hn hf (g := mkF m pc L (v :: .ref a :: S)) rfl rfl (hb K.2.2.2.1 hd)
  obtain ⟨s₂, o, a1, a2⟩ := r h' W (F.same W) (E.wr W) T' _ X' eT' (Fr.snoc X' N ha)
  exact ⟨s₂, o, st _ a1, a2⟩
theorem Go.new (K : Cx Z own bytes maxL ret mn p s m meth c) (hq : pc + 3 = q) {C : String} {i k : Nat} {cells' slots' : Nat} (w : (Cond.classLink own i C).before a0 Z = true) (wi : (Cond.instantiable C k).before a0 Z = true) (wz : (Cond.initialized C).before a0 Z = true) (hd : decode bytes pc = .ok (.new i, 3)) (hc : cells + 1 = cells') (hs : slots + k = slots') (hc' : cells' ≤ R.cells) (hs' : slots' ≤ R.slots)
    (r : ∀ h' a, a = h.size → Ext h h' → Exa Z h' a C → (∀ {O nm d : String} {ty : FieldType}, Laid Z a0 C O nm d → parseFieldDescriptor d = some ty → Fld Z h' a O nm d (defaultValue ty)) → Go p l e R s m args below meth c n0 kc ks Q h' cells' slots' (mkF m q L (.ref a :: S))) : Go p l e R s m args below meth c n0 kc ks Q h cells slots (mkF m pc L S) := fun T locs X eT N => by
  subst hq hc hs
  obtain ⟨T', h', X', eT', E, A, D, -, st⟩ := newO X K.1 K.2.1 K.2.2.1 w wi wz eT (g := mkF m pc L S) rfl (hb K.2.2.2.1 hd) hc' hs'
  obtain ⟨s₂, o, a1, a2⟩ := r h' _ rfl E A D T' _ X' eT' N
  exact ⟨s₂, o, st _ a1, a2⟩
theorem Go.newarr (K : Cx Z own bytes maxL ret mn p s m meth c) (hq : pc + 2 = q) {aty : ArrayType} {z : Int32} {cap cells' slots' : Nat} (w : (Cond.arrayClass (newarray.typeOf aty)).before a0 Z = true) (hd : decode bytes pc = .ok (.newarray aty, 2)) (hz : ¬ z < 0) (hcap : z.toNatClampNeg ≤ cap) (hb8 : cap * 8 ≤ 536870912) (hc : cells + 1 = cells') (hs : slots + cap = slots') (hc' : cells' ≤ R.cells) (hs' : slots' ≤ R.slots)
    (r : ∀ h' a k, a = h.size → Ext h h' → Arv Z h' a k (newarray.typeOf aty) z (List.replicate z.toNatClampNeg (defaultValue (newarray.typeOf aty))) (defaultValue (newarray.typeOf aty)) → Go p l e R s m args below meth c n0 kc ks Q h' cells' slots' (mkF m q L (.ref a :: S))) : Go p l e R s m args below meth c n0 kc ks Q h cells slots (mkF m pc L (.int z :: S)) := fun T locs X eT N => by
  subst hq hc hs
  obtain ⟨T', h', cA, X', eT', E, A, st⟩ := newP X K.1 K.2.1 w eT (g := mkF m pc L (.int z :: S)) rfl (hb K.2.2.2.1 hd) rfl hz hcap hb8 hc' hs'
  obtain ⟨s₂, o, a1, a2⟩ := r h' _ cA rfl E ((Arv.new A hz).pad fun i => by simpa using pad_rep [] (defaultValue (newarray.typeOf aty)) z.toNatClampNeg i) T' _ X' eT' N
  exact ⟨s₂, o, st _ a1, a2⟩
theorem Go.castore (K : Cx Z own bytes maxL ret mn p s m meth c) (hq : pc + 1 = q) {a : Addr} {k : ClassId} {z j x : Int32} {vs : List Value} {dv : Value} (A : Arv Z h a k .char z vs dv) {i : Nat} (hd : decode bytes pc = .ok (.castore, 1)) (hj : ¬ j < 0 ∧ j < z) (hi : j.toNatClampNeg = i) (hl : i < vs.length) (ha : n0 ≤ a)
    (r : ∀ h', Wr h h' a i (.int (nar .char x)) → Arv Z h' a k .char z (vs.set i (.int (nar .char x))) dv → Go p l e R s m args below meth c n0 kc ks Q h' cells slots (mkF m q L S)) : Go p l e R s m args below meth c n0 kc ks Q h cells slots (mkF m pc L (.int x :: .int j :: .ref a :: S)) := fun T locs X eT N => by
  subst hq
  obtain ⟨cl, A1, A2, A3, A4, A5, A6⟩ := A
  obtain ⟨T', h', X', eT', W, st⟩ := stC X K.1 K.2.1 eT A1 (j := j) (x := x) (inb_of A3 hj) (g := mkF m pc L (.int x :: .int j :: .ref a :: S)) rfl rfl (hb K.2.2.2.1 hd)
  obtain ⟨s₂, o, a1, a2⟩ := r h' (hi ▸ W) (Arv.set A1 A2 A3 A4 A5 A6 (fits_nar_char _) W i hi hl) T' _ X' eT' (Fr.snoc X' N ha)
  exact ⟨s₂, o, st _ a1, a2⟩
theorem Go.bastore (K : Cx Z own bytes maxL ret mn p s m meth c) (hq : pc + 1 = q) {a : Addr} {k : ClassId} {z j x : Int32} {vs : List Value} {dv : Value} (A : Arv Z h a k .byte z vs dv) {i : Nat} (hd : decode bytes pc = .ok (.bastore, 1)) (hj : ¬ j < 0 ∧ j < z) (hi : j.toNatClampNeg = i) (hl : i < vs.length) (ha : n0 ≤ a)
    (r : ∀ h', Wr h h' a i (.int (nar .byte x)) → Arv Z h' a k .byte z (vs.set i (.int (nar .byte x))) dv → Go p l e R s m args below meth c n0 kc ks Q h' cells slots (mkF m q L S)) : Go p l e R s m args below meth c n0 kc ks Q h cells slots (mkF m pc L (.int x :: .int j :: .ref a :: S)) := fun T locs X eT N => by
  subst hq
  obtain ⟨cl, A1, A2, A3, A4, A5, A6⟩ := A
  obtain ⟨T', h', X', eT', W, st⟩ := stB X K.1 K.2.1 eT A1 (j := j) (x := x) (inb_of A3 hj) (g := mkF m pc L (.int x :: .int j :: .ref a :: S)) rfl rfl (hb K.2.2.2.1 hd)
  obtain ⟨s₂, o, a1, a2⟩ := r h' (hi ▸ W) (Arv.set A1 A2 A3 A4 A5 A6 (fits_nar_byte _) W i hi hl) T' _ X' eT' (Fr.snoc X' N ha)
  exact ⟨s₂, o, st _ a1, a2⟩
theorem Go.caload (K : Cx Z own bytes maxL ret mn p s m meth c) (hq : pc + 1 = q) {a : Addr} {k : ClassId} {z j : Int32} {vs : List Value} {dv v : Value} (A : Arv Z h a k .char z vs dv) (hd : decode bytes pc = .ok (.caload, 1)) (hj : ¬ j < 0 ∧ j < z) (hv : vs.getD j.toNatClampNeg dv = v) (r : Go p l e R s m args below meth c n0 kc ks Q h cells slots (mkF m q L (v :: S))) : Go p l e R s m args below meth c n0 kc ks Q h cells slots (mkF m pc L (.int j :: .ref a :: S)) :=
  Go.of_step (fun T locs X eT t kk => by
    subst hq
    obtain ⟨cl, A1, A2, A3, A4, A5, A6⟩ := A
    exact X.caload K.1 (by rw [eT]; exact A1.1) (State.isArrayOf_alike K.2.1.alike A1.2.1) A1.2.2 (inb_of A3 hj) (A5.at (inb_of A3 hj) hv) (g := mkF m pc L (.int j :: .ref a :: S)) rfl rfl (hb K.2.2.2.1 hd) _ kk) r
theorem Go.baload (K : Cx Z own bytes maxL ret mn p s m meth c) (hq : pc + 1 = q) {a : Addr} {k : ClassId} {z j : Int32} {vs : List Value} {dv v : Value} (A : Arv Z h a k .byte z vs dv) (hd : decode bytes pc = .ok (.baload, 1)) (hj : ¬ j < 0 ∧ j < z) (hv : vs.getD j.toNatClampNeg dv = v) (r : Go p l e R s m args below meth c n0 kc ks Q h cells slots (mkF m q L (v :: S))) : Go p l e R s m args below meth c n0 kc ks Q h cells slots (mkF m pc L (.int j :: .ref a :: S)) :=
  Go.of_step (fun T locs X eT t kk => by
    subst hq
    obtain ⟨cl, A1, A2, A3, A4, A5, A6⟩ := A
    exact X.baloadBytes K.1 (by rw [eT]; exact A1.1) (State.isArrayOf_alike K.2.1.alike A1.2.1) A1.2.2 (inb_of A3 hj) (A5.at (inb_of A3 hj) hv) (g := mkF m pc L (.int j :: .ref a :: S)) rfl rfl (hb K.2.2.2.1 hd) _ kk) r
theorem Go.aaload (K : Cx Z own bytes maxL ret mn p s m meth c) (hq : pc + 1 = q) {a : Addr} {k : ClassId} {ty : FieldType} {z j : Int32} {vs : List Value} {dv v : Value} (A : Arv Z h a k ty z vs dv) (hty : ty.isReference = true) (hd : decode bytes pc = .ok (.aaload, 1)) (hj : ¬ j < 0 ∧ j < z) (hv : vs.getD j.toNatClampNeg dv = v) (r : Go p l e R s m args below meth c n0 kc ks Q h cells slots (mkF m q L (v :: S))) : Go p l e R s m args below meth c n0 kc ks Q h cells slots (mkF m pc L (.int j :: .ref a :: S)) :=
  Go.of_step (fun T locs X eT t kk => by
    subst hq
    obtain ⟨cl, A1, A2, A3, A4, A5, A6⟩ := A
    exact X.aaload K.1 (by rw [eT]; exact A1.1) (State.isArrayOf_alike K.2.1.alike A1.2.1) hty A1.2.2 (inb_of A3 hj) (A5.at (inb_of A3 hj) hv) (g := mkF m pc L (.int j :: .ref a :: S)) rfl rfl (hb K.2.2.2.1 hd) _ kk) r
theorem Go.aaloadC (K : Cx Z own bytes maxL ret mn p s m meth c) (hq : pc + 1 = q) {a : Addr} {ty : FieldType} {j : Int32} {ce : Cell} {v : Value} (A : Arr Z h a ce ty) (hty : ty.isReference = true) (hd : decode bytes pc = .ok (.aaload, 1)) (hj : ¬ (j < 0 ∨ ce.slots.size ≤ j.toNatClampNeg)) (hv : ce.slots[j.toNatClampNeg]? = some v) (r : Go p l e R s m args below meth c n0 kc ks Q h cells slots (mkF m q L (v :: S))) : Go p l e R s m args below meth c n0 kc ks Q h cells slots (mkF m pc L (.int j :: .ref a :: S)) :=
  Go.of_step (fun T locs X eT t kk => by
    subst hq
    exact X.aaload K.1 (by rw [eT]; exact A.1) (State.isArrayOf_alike K.2.1.alike A.2.1) hty A.2.2 hj hv (g := mkF m pc L (.int j :: .ref a :: S)) rfl rfl (hb K.2.2.2.1 hd) _ kk) r
theorem Go.tswIn (K : Cx Z own bytes maxL ret mn p s m meth c) {dflt low high : Int} {offs : Array Int} {len : Nat} {o : Int} {i : Int32} (hd : decode bytes pc = .ok (.tableswitch dflt low high offs, len)) (hin : ¬ (i.toInt < low ∨ i.toInt > high)) (ho : offs[(i.toInt - low).toNat]? = some o) (h0 : 0 ≤ (pc : Int) + o) (hq : ((pc : Int) + o).toNat = q) (r : Go p l e R s m args below meth c n0 kc ks Q h cells slots (mkF m q L S)) : Go p l e R s m args below meth c n0 kc ks Q h cells slots (mkF m pc L (.int i :: S)) := Go.of_step (fun T locs X _ t k => XS.tswIn (g := mkF m pc L (.int i :: S)) X.here K.1 rfl (pc0 := pc) (pc' := q) rfl (hb K.2.2.2.1 hd) rfl hin ho h0 hq k) r
theorem Go.tswOut (K : Cx Z own bytes maxL ret mn p s m meth c) {dflt low high : Int} {offs : Array Int} {len : Nat} {i : Int32} (hd : decode bytes pc = .ok (.tableswitch dflt low high offs, len)) (hin : i.toInt < low ∨ i.toInt > high) (h0 : 0 ≤ (pc : Int) + dflt) (hq : ((pc : Int) + dflt).toNat = q) (r : Go p l e R s m args below meth c n0 kc ks Q h cells slots (mkF m q L S)) : Go p l e R s m args below meth c n0 kc ks Q h cells slots (mkF m pc L (.int i :: S)) := Go.of_step (fun T locs X _ t k => XS.tswOut (g := mkF m pc L (.int i :: S)) X.here K.1 rfl (pc0 := pc) (pc' := q) rfl (hb K.2.2.2.1 hd) rfl hin h0 hq k) r
theorem Go.alen (K : Cx Z own bytes maxL ret mn p s m meth c) (hq : pc + 1 = q) {a : Addr} {k : ClassId} {ty : FieldType} {z : Int32} {vs : List Value} {dv : Value} (A : Arv Z h a k ty z vs dv) (hd : decode bytes pc = .ok (.arraylength, 1)) (r : Go p l e R s m args below meth c n0 kc ks Q h cells slots (mkF m q L (.int z :: S))) : Go p l e R s m args below meth c n0 kc ks Q h cells slots (mkF m pc L (.ref a :: S)) :=
  Go.of_step (fun T locs X eT t kk => by
    subst hq
    obtain ⟨cl, A1, A2, A3, A4, A5, A6⟩ := A
    refine X.arraylength K.1 (by rw [eT]; exact A1.1) (State.isArrayOf_alike K.2.1.alike A1.2.1) (g := mkF m pc L (.ref a :: S)) rfl rfl (hb K.2.2.2.1 hd) _ ?_
    rw [len_of A3 A4]; exact kk) r
/-! calls -/
abbrev PreB (R : Room) (as' : Array Value) (h : Heap) (dc ds : Nat) : Pt → Array Value → Prop := fun A a => a = as' ∧ A.U.heap = h ∧ A.cells + dc ≤ R.cells ∧ A.slots + ds ≤ R.slots
abbrev PostB (QQ : Option Value → Heap → List Loc → Prop) (dc ds : Nat) : Pt → Array Value → Option Value → Pt → Prop := fun A _ v B => ∃ L, QQ v B.U.heap L ∧ B.locs = A.locs ++ L ∧ B.cells = A.cells + dc ∧ B.slots = A.slots + ds
theorem Go.initO (K : Cx Z own bytes maxL ret mn p s m meth c) (hq : pc + 3 = q) {i : Nat} (w1 : (Cond.methodLink own i Lib.objectInit).before a0 Z = true) (w2 : (Cond.instanceMethod Lib.objectInit).before a0 Z = true) (w3 : (Cond.code Lib.objectInit ⟨#[0xb1]⟩ 1 none).before a0 Z = true) {a : Addr} (hsz : L.size = maxL) (hd : decode bytes pc = .ok (.invokespecial i, 3)) (hf : 1 ≤ R.frames) {W : Nat} (hW : (S.map fun v => v.category).sum ≤ W) (hl : W + 12 ≤ R.locals)
    (r : Go p l e R s m args below meth c n0 kc ks Q h cells slots (mkF m q L S)) : Go p l e R s m args below meth c n0 kc ks Q h cells slots (mkF m pc L (.ref a :: S)) :=
  Go.of_warm (fun T locs X eT => by subst hq; exact Jvm.RoadKit.initO X K.1 K.2.1 K.2.2.1 w1 w2 w3 eT (g := mkF m pc L (.ref a :: S)) rfl (hsz.trans K.2.2.2.2.1.symm) rfl (hb K.2.2.2.1 hd) hf (W := W) (by show 2 * 0 + _ ≤ _; omega) hl) r
theorem Go.bS (K : Cx Z own bytes maxL ret mn p s m meth c) (hq : pc + 3 = q) {i : Nat} {y : MethodName} {bytes' : ByteArray} {maxL' : Nat} {ret' : Option FieldType} (w1 : (Cond.methodLink own i y).before a0 Z = true) (w2 : (Cond.static y).before a0 Z = true) (w3 : (Cond.initialized y.cls).before a0 Z = true) (w4 : (Cond.code y bytes' maxL' ret').before a0 Z = true) (hy : y.cls ≠ "java/lang/invoke/MethodHandle" ∧ y.cls ≠ "java/lang/invoke/VarHandle")
    {W dc ds cells' slots' : Nat} {as' : Array Value} {QQ : Option Value → Heap → List Loc → Prop} (B : Back l R p e below s args y 3 W (PreB R as' h dc ds) (PostB QQ dc ds)) {sig : MethodDescriptor} (hsig : parseMethodDescriptor y.desc = some sig) {argsL rest : List Value} (has : as' = argsL.toArray) (hlen : argsL.length = sig.parameters.length) (hS : S = argsL.reverse ++ rest) (hsz : L.size = maxL) (hW : (rest.map fun v => v.category).sum ≤ W)
    (hd : decode bytes pc = .ok (.invokestatic i, 3)) (hc : cells + dc = cells') (hs : slots + ds = slots') (hc' : cells' ≤ R.cells) (hs' : slots' ≤ R.slots) (r : ∀ v h' L', QQ v h' L' → Fr n0 L' ∧ Go p l e R s m args below meth c n0 kc ks Q h' cells' slots' (mkF m q L (v.toList ++ rest))) : Go p l e R s m args below meth c n0 kc ks Q h cells slots (mkF m pc L S) := fun T locs X eT N => by
  subst hq hc hs
  obtain ⟨v, vm₁, ⟨T', L', k', n'⟩, -, X', ⟨Lc, hQ, l1, l2, l3⟩, st⟩ := Jvm.LawKit.callS X K.1 (y := y) K.2.2.1 (mvT K.2.1 w1) (mvT K.2.1 w2) (mvT K.2.1 w3) (mvT K.2.1 w4) hy B (g := mkF m pc L S) rfl (hsz.trans K.2.2.2.2.1.symm) (argsL := argsL) (rest := rest) (fun sg hg => by rw [hsig] at hg; cases hg; exact hlen) hS (by show 2 * 0 + _ ≤ _; omega) (hb K.2.2.2.1 hd) (fun _ _ => ⟨has.symm, eT, hc', hs'⟩)
  dsimp only [Pt.U, Pt.locs, Pt.cells, Pt.slots] at X' l1 l2 l3 st hQ
  subst l1 l2 l3
  obtain ⟨N', G⟩ := r v T'.heap Lc hQ
  obtain ⟨s₂, o, a1, a2⟩ := G T' _ X' rfl (Fr.app N N')
  exact ⟨s₂, o, st _ a1, a2⟩
theorem Go.bI (K : Cx Z own bytes maxL ret mn p s m meth c) (hq : pc + 3 = q) {i : Nat} {y : MethodName} {bytes' : ByteArray} {maxL' : Nat} (hyi : y.name = "<init>") (w1 : (Cond.methodLink own i y).before a0 Z = true) (w2 : (Cond.instanceMethod y).before a0 Z = true) (w4 : (Cond.code y bytes' maxL' none).before a0 Z = true) (hy : y.cls ≠ "java/lang/invoke/MethodHandle" ∧ y.cls ≠ "java/lang/invoke/VarHandle")
    {W dc ds cells' slots' : Nat} {as' : Array Value} {QQ : Option Value → Heap → List Loc → Prop} (B : Back l R p e below s args y 3 W (PreB R as' h dc ds) (PostB QQ dc ds)) {sig : MethodDescriptor} (hsig : parseMethodDescriptor y.desc = some sig) {a : Addr} {argsL rest : List Value} (has : as' = (.ref a :: argsL).toArray) (hlen : argsL.length = sig.parameters.length) (hS : S = argsL.reverse ++ .ref a :: rest) (hsz : L.size = maxL) (hW : (rest.map fun v => v.category).sum ≤ W)
    (hd : decode bytes pc = .ok (.invokespecial i, 3)) (hc : cells + dc = cells') (hs : slots + ds = slots') (hc' : cells' ≤ R.cells) (hs' : slots' ≤ R.slots) (r : ∀ v h' L', QQ v h' L' → Fr n0 L' ∧ Go p l e R s m args below meth c n0 kc ks Q h' cells' slots' (mkF m q L (v.toList ++ rest))) : Go p l e R s m args below meth c n0 kc ks Q h cells slots (mkF m pc L S) := fun T locs X eT N => by
  subst hq hc hs
  obtain ⟨v, vm₁, ⟨T', L', k', n'⟩, -, X', ⟨Lc, hQ, l1, l2, l3⟩, st⟩ := X.specialBack K.1 (y := y) hyi K.2.2.1 (mvT K.2.1 w1) (mvT K.2.1 w2) (mvT K.2.1 w4) hy B (g := mkF m pc L S) rfl (hsz.trans K.2.2.2.2.1.symm) (Steps.refl _) (a := a) (argsL := argsL) (rest := rest) (fun sg hg => by rw [hsig] at hg; cases hg; exact hlen) hS (by show 2 * 0 + _ ≤ _; omega) (hb K.2.2.2.1 hd) (fun _ _ => ⟨has.symm, eT, hc', hs'⟩)
  dsimp only [Pt.U, Pt.locs, Pt.cells, Pt.slots] at X' l1 l2 l3 st hQ
  subst l1 l2 l3
  obtain ⟨N', G⟩ := r v T'.heap Lc hQ
  obtain ⟨s₂, o, a1, a2⟩ := G T' _ X' rfl (Fr.app N N')
  exact ⟨s₂, o, st.trans a1, a2⟩
theorem Go.bV (K : Cx Z own bytes maxL ret mn p s m meth c) (hq : pc + 3 = q) {i : Nat} {C : String} {y z : MethodName} (w1 : (Cond.methodLink own i y).before a0 Z = true) (w2 : (Cond.declares y).before a0 Z = true) (nf : NotFace s y) (w3 : (Cond.selects C y z).before a0 Z = true) (w4 : (Cond.instanceMethod z).before a0 Z = true) (hy : y.cls ≠ "java/lang/invoke/MethodHandle" ∧ y.cls ≠ "java/lang/invoke/VarHandle")
    {W dc ds cells' slots' : Nat} {as' : Array Value} {QQ : Option Value → Heap → List Loc → Prop} (B : Back l R p e below s args z 3 W (PreB R as' h dc ds) (PostB QQ dc ds)) {a : Addr} (E : Exa Z h a C) {sig : MethodDescriptor} (hsig : parseMethodDescriptor y.desc = some sig) {argsL rest : List Value} (has : as' = (.ref a :: argsL).toArray) (hlen : argsL.length = sig.parameters.length) (hS : S = argsL.reverse ++ .ref a :: rest) (hsz : L.size = maxL) (hW : (rest.map fun v => v.category).sum ≤ W)
    (hd : decode bytes pc = .ok (.invokevirtual i, 3)) (hc : cells + dc = cells') (hs : slots + ds = slots') (hc' : cells' ≤ R.cells) (hs' : slots' ≤ R.slots) (r : ∀ v h' L', QQ v h' L' → Fr n0 L' ∧ Go p l e R s m args below meth c n0 kc ks Q h' cells' slots' (mkF m q L (v.toList ++ rest))) : Go p l e R s m args below meth c n0 kc ks Q h cells slots (mkF m pc L S) := fun T locs X eT N => by
  subst hq hc hs
  obtain ⟨cq, kq, qa, qb, qc⟩ := isOf K.2.1 eT E
  obtain ⟨v, vm₁, ⟨T', L', k', n'⟩, -, X', ⟨Lc, hQ, l1, l2, l3⟩, st⟩ := X.virtualBack K.1 (y := y) (z := z) K.2.2.1 (mvT K.2.1 w1) (mvT K.2.1 w2) nf (mvT K.2.1 w3) (mvT K.2.1 w4) hy B qa qc (g := mkF m pc L S) rfl (hsz.trans K.2.2.2.2.1.symm) (Steps.refl _) (argsL := argsL) (rest := rest) (fun sg hg => by rw [hsig] at hg; cases hg; exact hlen) hS (by show 2 * 0 + _ ≤ _; omega) (hb K.2.2.2.1 hd) (fun _ _ => ⟨has.symm, eT, hc', hs'⟩)
  dsimp only [Pt.U, Pt.locs, Pt.cells, Pt.slots] at X' l1 l2 l3 st hQ
  subst l1 l2 l3
  obtain ⟨N', G⟩ := r v T'.heap Lc hQ
  obtain ⟨s₂, o, a1, a2⟩ := G T' _ X' rfl (Fr.app N N')
  exact ⟨s₂, o, st.trans a1, a2⟩
/-- that the resolved method's class is no interface, where the receiver's class selects the resolved method itself -/
theorem nfS (K : Cx Z own bytes maxL ret mn p s m meth c) {C : String} {y : MethodName} (w3 : (Cond.selects C y y).before a0 Z = true) : NotFace s y := notFace_of_selects (args := #[]) (mvT K.2.1 w3)
/-- a callee's contract as what pays a call -/
theorem Ctr.back (K : Cx Z own bytes maxL ret mn p s m meth c) {y : MethodName} {bytes' : ByteArray} {maxL' : Nat} {ret' : Option FieldType} {rm : Room} {as' : Array Value} {Q' : Option Value → Heap → Prop} {W : Nat} (C : Ctr l Z n0 y bytes' maxL' ret' [] rm as' h Q') (w4 : (Cond.code y bytes' maxL' ret').before a0 Z = true) (w3 : (Cond.initialized y.cls).before a0 Z = true) (hf : rm.frames + 1 ≤ R.frames) (hl : W + (maxL' + 11) + rm.locals ≤ R.locals) :
    Back l R p e below s args y 3 W (PreB R as' h rm.cells rm.slots) (PostB (fun v h' L => Q' v h' ∧ Fr n0 L) rm.cells rm.slots) :=
  backOf (W := W) (Z := Z) (h := h) (rm := rm) (as' := as') (Q := fun v h' L => Q' v h' ∧ Fr n0 L) C K.2.1 w4 w3 hf hl
/-- a static call by the callee's contract -/
theorem Go.cS (K : Cx Z own bytes maxL ret mn p s m meth c) (hq : pc + 3 = q) {i : Nat} {y : MethodName} {bytes' : ByteArray} {maxL' : Nat} {ret' : Option FieldType} {rm : Room} {as' : Array Value} {Q' : Option Value → Heap → Prop} (C : Ctr l Z n0 y bytes' maxL' ret' [] rm as' h Q') (w1 : (Cond.methodLink own i y).before a0 Z = true) (w2 : (Cond.static y).before a0 Z = true) (w3 : (Cond.initialized y.cls).before a0 Z = true) (w4 : (Cond.code y bytes' maxL' ret').before a0 Z = true) (hy : y.cls ≠ "java/lang/invoke/MethodHandle" ∧ y.cls ≠ "java/lang/invoke/VarHandle")
    {sig : MethodDescriptor} (hsig : parseMethodDescriptor y.desc = some sig) {argsL rest : List Value} (has : as' = argsL.toArray) (hlen : argsL.length = sig.parameters.length) (hS : S = argsL.reverse ++ rest) (hsz : L.size = maxL) {W cells' slots' : Nat} (hW : (rest.map fun v => v.category).sum ≤ W) (hf : rm.frames + 1 ≤ R.frames) (hl : W + (maxL' + 11) + rm.locals ≤ R.locals)
    (hd : decode bytes pc = .ok (.invokestatic i, 3)) (hc : cells + rm.cells = cells') (hs : slots + rm.slots = slots') (hc' : cells' ≤ R.cells) (hs' : slots' ≤ R.slots) (r : ∀ v h', Q' v h' → Go p l e R s m args below meth c n0 kc ks Q h' cells' slots' (mkF m q L (v.toList ++ rest))) : Go p l e R s m args below meth c n0 kc ks Q h cells slots (mkF m pc L S) :=
  Go.bS K hq w1 w2 w3 w4 hy (C.back K w4 w3 hf hl) hsig has hlen hS hsz hW hd hc hs hc' hs' fun v h' L' hQ => ⟨hQ.2, r v h' hQ.1⟩
/-- a constructor by its contract -/
theorem Go.cI (K : Cx Z own bytes maxL ret mn p s m meth c) (hq : pc + 3 = q) {i : Nat} {y : MethodName} {bytes' : ByteArray} {maxL' : Nat} {rm : Room} {as' : Array Value} {Q' : Option Value → Heap → Prop} (C : Ctr l Z n0 y bytes' maxL' none [] rm as' h Q') (hyi : y.name = "<init>") (w1 : (Cond.methodLink own i y).before a0 Z = true) (w2 : (Cond.instanceMethod y).before a0 Z = true) (w3 : (Cond.initialized y.cls).before a0 Z = true) (w4 : (Cond.code y bytes' maxL' none).before a0 Z = true) (hy : y.cls ≠ "java/lang/invoke/MethodHandle" ∧ y.cls ≠ "java/lang/invoke/VarHandle")
    {sig : MethodDescriptor} (hsig : parseMethodDescriptor y.desc = some sig) {a : Addr} {argsL rest : List Value} (has : as' = (.ref a :: argsL).toArray) (hlen : argsL.length = sig.parameters.length) (hS : S = argsL.reverse ++ .ref a :: rest) (hsz : L.size = maxL) {W cells' slots' : Nat} (hW : (rest.map fun v => v.category).sum ≤ W) (hf : rm.frames + 1 ≤ R.frames) (hl : W + (maxL' + 11) + rm.locals ≤ R.locals)
    (hd : decode bytes pc = .ok (.invokespecial i, 3)) (hc : cells + rm.cells = cells') (hs : slots + rm.slots = slots') (hc' : cells' ≤ R.cells) (hs' : slots' ≤ R.slots) (r : ∀ v h', Q' v h' → Go p l e R s m args below meth c n0 kc ks Q h' cells' slots' (mkF m q L (v.toList ++ rest))) : Go p l e R s m args below meth c n0 kc ks Q h cells slots (mkF m pc L S) :=
  Go.bI K hq hyi w1 w2 w4 hy (C.back K w4 w3 hf hl) hsig has hlen hS hsz hW hd hc hs hc' hs' fun v h' L' hQ => ⟨hQ.2, r v h' hQ.1⟩
/-- an instance method by its contract -/
theorem Go.cV (K : Cx Z own bytes maxL ret mn p s m meth c) (hq : pc + 3 = q) {i : Nat} {C0 : String} {y z : MethodName} {bytes' : ByteArray} {maxL' : Nat} {ret' : Option FieldType} {rm : Room} {as' : Array Value} {Q' : Option Value → Heap → Prop} (C : Ctr l Z n0 z bytes' maxL' ret' [] rm as' h Q') (w1 : (Cond.methodLink own i y).before a0 Z = true) (w2 : (Cond.declares y).before a0 Z = true) (nf : NotFace s y) (w3 : (Cond.selects C0 y z).before a0 Z = true) (w4 : (Cond.instanceMethod z).before a0 Z = true) (w5 : (Cond.initialized z.cls).before a0 Z = true) (w6 : (Cond.code z bytes' maxL' ret').before a0 Z = true) (hy : y.cls ≠ "java/lang/invoke/MethodHandle" ∧ y.cls ≠ "java/lang/invoke/VarHandle")
    {a : Addr} (E : Exa Z h a C0) {sig : MethodDescriptor} (hsig : parseMethodDescriptor y.desc = some sig) {argsL rest : List Value} (has : as' = (.ref a :: argsL).toArray) (hlen : argsL.length = sig.parameters.length) (hS : S = argsL.reverse ++ .ref a :: rest) (hsz : L.size = maxL) {W cells' slots' : Nat} (hW : (rest.map fun v => v.category).sum ≤ W) (hf : rm.frames + 1 ≤ R.frames) (hl : W + (maxL' + 11) + rm.locals ≤ R.locals)
    (hd : decode bytes pc = .ok (.invokevirtual i, 3)) (hc : cells + rm.cells = cells') (hs : slots + rm.slots = slots') (hc' : cells' ≤ R.cells) (hs' : slots' ≤ R.slots) (r : ∀ v h', Q' v h' → Go p l e R s m args below meth c n0 kc ks Q h' cells' slots' (mkF m q L (v.toList ++ rest))) : Go p l e R s m args below meth c n0 kc ks Q h cells slots (mkF m pc L S) :=
  Go.bV K hq w1 w2 nf w3 w4 hy (C.back K w6 w5 hf hl) E hsig has hlen hS hsz hW hd hc hs hc' hs' fun v h' L' hQ => ⟨hQ.2, r v h' hQ.1⟩
end Rules
/-! what is carried -/
theorem Ext.refl (h : Heap) : Ext h h := ⟨Nat.le_refl _, fun _ _ q => q⟩
theorem Ext.trans {h0 h h' : Heap} (E : Ext h0 h) (E' : Ext h h') : Ext h0 h' := ⟨Nat.le_trans E.1 E'.1, fun a c q => E'.2 a c (E.2 a c q)⟩
theorem Ext.keep {h0 h h' : Heap} {ws : List Addr} (E : Ext h0 h) (K : Keep h h' ws) (q : ∀ x ∈ ws, h0.size ≤ x) : Ext h0 h' :=
  ⟨Nat.le_trans E.1 K.1, fun a c r => K.2.1 a c (E.2 a c r) fun z => absurd (Array.getElem?_eq_some_iff.mp r).1 (Nat.not_lt.mpr (q a z))⟩
theorem Ext.wr {h0 h h' : Heap} {a : Addr} {sl : Nat} {v : Value} (E : Ext h0 h) (W : Wr h h' a sl v) (q : h0.size ≤ a) : Ext h0 h' := Ext.keep E (Keep.of_wr W) (allS q all0)
theorem Ext.of_keep {h h' : Heap} (K : Keep h h' []) : Ext h h' := ⟨K.1, fun a c q => K.2.1 a c q nin0⟩
theorem Ext.sta {Z : State} {h h' : Heap} {C n d : String} {v : Value} (E : Ext h h') (F : Sta Z h C n d v) : Sta Z h' C n d v := F.ext E
end Jvm.Pilot.@@N@@.W
namespace Jvm.Pilot.@@N@@
open Jvm Jvm.ClassFile Sem Op Lib Jvm.Free Jvm.Stand Jvm.LawKit Jvm.RoadKit Bundle Jvm.Pilot.@@N@@.W Jvm.Pilot.@@N@@.Jvm.D
theorem d1_0 : decode method_2_code 0 = .ok (.iload_n 0, 1) := by decide +kernel
theorem d1_1 : decode method_2_code 1 = .ok (.ldc 7, 2) := by decide +kernel
theorem d1_3 : decode method_2_code 3 = .ok (.iand, 1) := by decide +kernel
theorem d1_4 : decode method_2_code 4 = .ok (.ifCond .eq 12, 3) := by decide +kernel
theorem d1_16 : decode method_2_code 16 = .ok (.iload_n 0, 1) := by decide +kernel
theorem d1_17 : decode method_2_code 17 = .ok (.ldc 8, 2) := by decide +kernel
theorem d1_19 : decode method_2_code 19 = .ok (.iand, 1) := by decide +kernel
theorem d1_20 : decode method_2_code 20 = .ok (.i2c, 1) := by decide +kernel
theorem d1_21 : decode method_2_code 21 = .ok (.ireturn, 1) := by decide +kernel
theorem d1_7 : decode method_2_code 7 = .ok (.bipush 45, 2) := by decide +kernel
theorem d1_9 : decode method_2_code 9 = .ok (.iload_n 0, 1) := by decide +kernel
theorem d1_10 : decode method_2_code 10 = .ok (.bipush 15, 2) := by decide +kernel
theorem d1_12 : decode method_2_code 12 = .ok (.iand, 1) := by decide +kernel
theorem d1_13 : decode method_2_code 13 = .ok (.iadd, 1) := by decide +kernel
theorem d1_14 : decode method_2_code 14 = .ok (.i2c, 1) := by decide +kernel
theorem d1_15 : decode method_2_code 15 = .ok (.ireturn, 1) := by decide +kernel
theorem d15_0 : decode method_3_code 0 = .ok (.iload_n 0, 1) := by decide +kernel
theorem d15_1 : decode method_3_code 1 = .ok (.bipush 48, 2) := by decide +kernel
theorem d15_3 : decode method_3_code 3 = .ok (.if_icmp .lt 13, 3) := by decide +kernel
theorem d15_16 : decode method_3_code 16 = .ok (.iconst 0, 1) := by decide +kernel
theorem d15_17 : decode method_3_code 17 = .ok (.ireturn, 1) := by decide +kernel
theorem d15_6 : decode method_3_code 6 = .ok (.iload_n 0, 1) := by decide +kernel
theorem d15_7 : decode method_3_code 7 = .ok (.bipush 57, 2) := by decide +kernel
theorem d15_9 : decode method_3_code 9 = .ok (.if_icmp .gt 7, 3) := by decide +kernel
theorem d15_12 : decode method_3_code 12 = .ok (.iconst 1, 1) := by decide +kernel
theorem d15_13 : decode method_3_code 13 = .ok (.goto 4, 3) := by decide +kernel
theorem d14_0 : decode method_4_code 0 = .ok (.iload_n 0, 1) := by decide +kernel
theorem d14_1 : decode method_4_code 1 = .ok (.iload_n 1, 1) := by decide +kernel
theorem d14_2 : decode method_4_code 2 = .ok (.if_icmp .lt 15, 3) := by decide +kernel
theorem d14_17 : decode method_4_code 17 = .ok (.iconst 1, 1) := by decide +kernel
theorem d14_18 : decode method_4_code 18 = .ok (.goto 4, 3) := by decide +kernel
theorem d14_22 : decode method_4_code 22 = .ok (.ireturn, 1) := by decide +kernel
theorem d14_5 : decode method_4_code 5 = .ok (.iload_n 0, 1) := by decide +kernel
theorem d14_6 : decode method_4_code 6 = .ok (.iload_n 2, 1) := by decide +kernel
theorem d14_7 : decode method_4_code 7 = .ok (.if_icmp .ge 10, 3) := by decide +kernel
theorem d14_10 : decode method_4_code 10 = .ok (.iload_n 3, 1) := by decide +kernel
theorem d14_11 : decode method_4_code 11 = .ok (.invokestatic 9, 3) := by decide +kernel
theorem d14_14 : decode method_4_code 14 = .ok (.ifCond .eq 7, 3) := by decide +kernel
theorem d14_21 : decode method_4_code 21 = .ok (.iconst 0, 1) := by decide +kernel
theorem d6_0 : decode jdk_52_method_21_code 0 = .ok (.iconst 0, 1) := by decide +kernel
theorem d6_1 : decode jdk_52_method_21_code 1 = .ok (.istore 5, 2) := by decide +kernel
theorem d6_3 : decode jdk_52_method_21_code 3 = .ok (.iload 5, 2) := by decide +kernel
theorem d6_5 : decode jdk_52_method_21_code 5 = .ok (.iload 4, 2) := by decide +kernel
theorem d6_7 : decode jdk_52_method_21_code 7 = .ok (.if_icmp .ge 37, 3) := by decide +kernel
theorem d6_10 : decode jdk_52_method_21_code 10 = .ok (.aload_n 0, 1) := by decide +kernel
theorem d6_11 : decode jdk_52_method_21_code 11 = .ok (.iload_n 1, 1) := by decide +kernel
theorem d6_12 : decode jdk_52_method_21_code 12 = .ok (.caload, 1) := by decide +kernel
theorem d6_13 : decode jdk_52_method_21_code 13 = .ok (.istore 6, 2) := by decide +kernel
theorem d6_15 : decode jdk_52_method_21_code 15 = .ok (.iload 6, 2) := by decide +kernel
theorem d6_17 : decode jdk_52_method_21_code 17 = .ok (.sipush 255, 3) := by decide +kernel
theorem d6_20 : decode jdk_52_method_21_code 20 = .ok (.if_icmp .le 6, 3) := by decide +kernel
theorem d6_26 : decode jdk_52_method_21_code 26 = .ok (.aload_n 2, 1) := by decide +kernel
theorem d6_27 : decode jdk_52_method_21_code 27 = .ok (.iload_n 3, 1) := by decide +kernel
theorem d6_28 : decode jdk_52_method_21_code 28 = .ok (.iload 6, 2) := by decide +kernel
theorem d6_30 : decode jdk_52_method_21_code 30 = .ok (.i2b, 1) := by decide +kernel
theorem d6_31 : decode jdk_52_method_21_code 31 = .ok (.bastore, 1) := by decide +kernel
theorem d6_32 : decode jdk_52_method_21_code 32 = .ok (.iinc 1 1, 3) := by decide +kernel
theorem d6_35 : decode jdk_52_method_21_code 35 = .ok (.iinc 3 1, 3) := by decide +kernel
theorem d6_38 : decode jdk_52_method_21_code 38 = .ok (.iinc 5 1, 3) := by decide +kernel
theorem d6_41 : decode jdk_52_method_21_code 41 = .ok (.goto (-38), 3) := by decide +kernel
theorem d6_44 : decode jdk_52_method_21_code 44 = .ok (.iload 4, 2) := by decide +kernel
theorem d6_46 : decode jdk_52_method_21_code 46 = .ok (.ireturn, 1) := by decide +kernel
theorem d6_23 : decode jdk_52_method_21_code 23 = .ok (.iload 5, 2) := by decide +kernel
theorem d6_25 : decode jdk_52_method_21_code 25 = .ok (.ireturn, 1) := by decide +kernel
theorem d11_0 : decode jdk_52_method_3_code 0 = .ok (.iload_n 0, 1) := by decide +kernel
theorem d11_1 : decode jdk_52_method_3_code 1 = .ok (.ifCond .ge 11, 3) := by decide +kernel
theorem d11_12 : decode jdk_52_method_3_code 12 = .ok (.iload_n 0, 1) := by decide +kernel
theorem d11_13 : decode jdk_52_method_3_code 13 = .ok (.ldc 20, 2) := by decide +kernel
theorem d11_15 : decode jdk_52_method_3_code 15 = .ok (.if_icmp .lt 40, 3) := by decide +kernel
theorem d11_55 : decode jdk_52_method_3_code 55 = .ok (.iload_n 0, 1) := by decide +kernel
theorem d11_56 : decode jdk_52_method_3_code 56 = .ok (.iconst 1, 1) := by decide +kernel
theorem d11_57 : decode jdk_52_method_3_code 57 = .ok (.ishl, 1) := by decide +kernel
theorem d11_58 : decode jdk_52_method_3_code 58 = .ok (.ireturn, 1) := by decide +kernel
theorem d10_0 : decode jdk_52_method_2_code 0 = .ok (.iload_n 0, 1) := by decide +kernel
theorem d10_1 : decode jdk_52_method_2_code 1 = .ok (.invokestatic 11, 3) := by decide +kernel
theorem d10_4 : decode jdk_52_method_2_code 4 = .ok (.newarray .byte, 2) := by decide +kernel
theorem d10_6 : decode jdk_52_method_2_code 6 = .ok (.areturn, 1) := by decide +kernel
theorem d12_0 : decode jdk_52_method_4_code 0 = .ok (.getstatic 44, 3) := by decide +kernel
theorem d12_3 : decode jdk_52_method_4_code 3 = .ok (.ifCond .ne 25, 3) := by decide +kernel
theorem d12_28 : decode jdk_52_method_4_code 28 = .ok (.iload_n 1, 1) := by decide +kernel
theorem d12_29 : decode jdk_52_method_4_code 29 = .ok (.iconst 1, 1) := by decide +kernel
theorem d12_30 : decode jdk_52_method_4_code 30 = .ok (.ishl, 1) := by decide +kernel
theorem d12_31 : decode jdk_52_method_4_code 31 = .ok (.istore_n 1, 1) := by decide +kernel
theorem d12_32 : decode jdk_52_method_4_code 32 = .ok (.aload_n 0, 1) := by decide +kernel
theorem d12_33 : decode jdk_52_method_4_code 33 = .ok (.iload_n 1, 1) := by decide +kernel
theorem d12_34 : decode jdk_52_method_4_code 34 = .ok (.iinc 1 1, 3) := by decide +kernel
theorem d12_37 : decode jdk_52_method_4_code 37 = .ok (.iload_n 2, 1) := by decide +kernel
theorem d12_38 : decode jdk_52_method_4_code 38 = .ok (.getstatic 59, 3) := by decide +kernel
theorem d12_41 : decode jdk_52_method_4_code 41 = .ok (.ishr, 1) := by decide +kernel
theorem d12_42 : decode jdk_52_method_4_code 42 = .ok (.i2b, 1) := by decide +kernel
theorem d12_43 : decode jdk_52_method_4_code 43 = .ok (.bastore, 1) := by decide +kernel
theorem d12_44 : decode jdk_52_method_4_code 44 = .ok (.aload_n 0, 1) := by decide +kernel
theorem d12_45 : decode jdk_52_method_4_code 45 = .ok (.iload_n 1, 1) := by decide +kernel
theorem d12_46 : decode jdk_52_method_4_code 46 = .ok (.iload_n 2, 1) := by decide +kernel
theorem d12_47 : decode jdk_52_method_4_code 47 = .ok (.getstatic 63, 3) := by decide +kernel
theorem d12_50 : decode jdk_52_method_4_code 50 = .ok (.ishr, 1) := by decide +kernel
theorem d12_51 : decode jdk_52_method_4_code 51 = .ok (.i2b, 1) := by decide +kernel
theorem d12_52 : decode jdk_52_method_4_code 52 = .ok (.bastore, 1) := by decide +kernel
theorem d12_53 : decode jdk_52_method_4_code 53 = .ok (.return_, 1) := by decide +kernel
theorem d13_0 : decode jdk_52_method_5_code 0 = .ok (.getstatic 44, 3) := by decide +kernel
theorem d13_3 : decode jdk_52_method_5_code 3 = .ok (.ifCond .ne 25, 3) := by decide +kernel
theorem d13_28 : decode jdk_52_method_5_code 28 = .ok (.iload_n 1, 1) := by decide +kernel
theorem d13_29 : decode jdk_52_method_5_code 29 = .ok (.iconst 1, 1) := by decide +kernel
theorem d13_30 : decode jdk_52_method_5_code 30 = .ok (.ishl, 1) := by decide +kernel
theorem d13_31 : decode jdk_52_method_5_code 31 = .ok (.istore_n 1, 1) := by decide +kernel
theorem d13_32 : decode jdk_52_method_5_code 32 = .ok (.aload_n 0, 1) := by decide +kernel
theorem d13_33 : decode jdk_52_method_5_code 33 = .ok (.iload_n 1, 1) := by decide +kernel
theorem d13_34 : decode jdk_52_method_5_code 34 = .ok (.iinc 1 1, 3) := by decide +kernel
theorem d13_37 : decode jdk_52_method_5_code 37 = .ok (.baload, 1) := by decide +kernel
theorem d13_38 : decode jdk_52_method_5_code 38 = .ok (.sipush 255, 3) := by decide +kernel
theorem d13_41 : decode jdk_52_method_5_code 41 = .ok (.iand, 1) := by decide +kernel
theorem d13_42 : decode jdk_52_method_5_code 42 = .ok (.getstatic 59, 3) := by decide +kernel
theorem d13_45 : decode jdk_52_method_5_code 45 = .ok (.ishl, 1) := by decide +kernel
theorem d13_46 : decode jdk_52_method_5_code 46 = .ok (.aload_n 0, 1) := by decide +kernel
theorem d13_47 : decode jdk_52_method_5_code 47 = .ok (.iload_n 1, 1) := by decide +kernel
theorem d13_48 : decode jdk_52_method_5_code 48 = .ok (.baload, 1) := by decide +kernel
theorem d13_49 : decode jdk_52_method_5_code 49 = .ok (.sipush 255, 3) := by decide +kernel
theorem d13_52 : decode jdk_52_method_5_code 52 = .ok (.iand, 1) := by decide +kernel
theorem d13_53 : decode jdk_52_method_5_code 53 = .ok (.getstatic 63, 3) := by decide +kernel
theorem d13_56 : decode jdk_52_method_5_code 56 = .ok (.ishl, 1) := by decide +kernel
theorem d13_57 : decode jdk_52_method_5_code 57 = .ok (.ior, 1) := by decide +kernel
theorem d13_58 : decode jdk_52_method_5_code 58 = .ok (.i2c, 1) := by decide +kernel
theorem d13_59 : decode jdk_52_method_5_code 59 = .ok (.ireturn, 1) := by decide +kernel
theorem d9_0 : decode jdk_52_method_14_code 0 = .ok (.iload_n 2, 1) := by decide +kernel
theorem d9_1 : decode jdk_52_method_14_code 1 = .ok (.invokestatic 107, 3) := by decide +kernel
theorem d9_4 : decode jdk_52_method_14_code 4 = .ok (.astore_n 3, 1) := by decide +kernel
theorem d9_5 : decode jdk_52_method_14_code 5 = .ok (.iconst 0, 1) := by decide +kernel
theorem d9_6 : decode jdk_52_method_14_code 6 = .ok (.istore 4, 2) := by decide +kernel
theorem d9_8 : decode jdk_52_method_14_code 8 = .ok (.iload 4, 2) := by decide +kernel
theorem d9_10 : decode jdk_52_method_14_code 10 = .ok (.iload_n 2, 1) := by decide +kernel
theorem d9_11 : decode jdk_52_method_14_code 11 = .ok (.if_icmp .ge 21, 3) := by decide +kernel
theorem d9_14 : decode jdk_52_method_14_code 14 = .ok (.aload_n 3, 1) := by decide +kernel
theorem d9_15 : decode jdk_52_method_14_code 15 = .ok (.iload 4, 2) := by decide +kernel
theorem d9_17 : decode jdk_52_method_14_code 17 = .ok (.aload_n 0, 1) := by decide +kernel
theorem d9_18 : decode jdk_52_method_14_code 18 = .ok (.iload_n 1, 1) := by decide +kernel
theorem d9_19 : decode jdk_52_method_14_code 19 = .ok (.caload, 1) := by decide +kernel
theorem d9_20 : decode jdk_52_method_14_code 20 = .ok (.invokestatic 111, 3) := by decide +kernel
theorem d9_23 : decode jdk_52_method_14_code 23 = .ok (.iinc 1 1, 3) := by decide +kernel
theorem d9_26 : decode jdk_52_method_14_code 26 = .ok (.iinc 4 1, 3) := by decide +kernel
theorem d9_29 : decode jdk_52_method_14_code 29 = .ok (.goto (-21), 3) := by decide +kernel
theorem d9_32 : decode jdk_52_method_14_code 32 = .ok (.aload_n 3, 1) := by decide +kernel
theorem d9_33 : decode jdk_52_method_14_code 33 = .ok (.areturn, 1) := by decide +kernel
theorem d5_0 : decode jdk_52_method_16_code 0 = .ok (.iload_n 2, 1) := by decide +kernel
theorem d5_1 : decode jdk_52_method_16_code 1 = .ok (.newarray .byte, 2) := by decide +kernel
theorem d5_3 : decode jdk_52_method_16_code 3 = .ok (.astore_n 3, 1) := by decide +kernel
theorem d5_4 : decode jdk_52_method_16_code 4 = .ok (.aload_n 0, 1) := by decide +kernel
theorem d5_5 : decode jdk_52_method_16_code 5 = .ok (.iload_n 1, 1) := by decide +kernel
theorem d5_6 : decode jdk_52_method_16_code 6 = .ok (.aload_n 3, 1) := by decide +kernel
theorem d5_7 : decode jdk_52_method_16_code 7 = .ok (.iconst 0, 1) := by decide +kernel
theorem d5_8 : decode jdk_52_method_16_code 8 = .ok (.iload_n 2, 1) := by decide +kernel
theorem d5_9 : decode jdk_52_method_16_code 9 = .ok (.invokestatic 115, 3) := by decide +kernel
theorem d5_12 : decode jdk_52_method_16_code 12 = .ok (.istore 4, 2) := by decide +kernel
theorem d5_14 : decode jdk_52_method_16_code 14 = .ok (.iload 4, 2) := by decide +kernel
theorem d5_16 : decode jdk_52_method_16_code 16 = .ok (.iload_n 2, 1) := by decide +kernel
theorem d5_17 : decode jdk_52_method_16_code 17 = .ok (.if_icmp .eq 40, 3) := by decide +kernel
theorem d5_57 : decode jdk_52_method_16_code 57 = .ok (.aload_n 3, 1) := by decide +kernel
theorem d5_58 : decode jdk_52_method_16_code 58 = .ok (.areturn, 1) := by decide +kernel
theorem d5_20 : decode jdk_52_method_16_code 20 = .ok (.aload_n 0, 1) := by decide +kernel
theorem d5_21 : decode jdk_52_method_16_code 21 = .ok (.iload_n 1, 1) := by decide +kernel
theorem d5_22 : decode jdk_52_method_16_code 22 = .ok (.iload_n 2, 1) := by decide +kernel
theorem d5_23 : decode jdk_52_method_16_code 23 = .ok (.invokestatic 119, 3) := by decide +kernel
theorem d5_26 : decode jdk_52_method_16_code 26 = .ok (.astore 5, 2) := by decide +kernel
theorem d5_28 : decode jdk_52_method_16_code 28 = .ok (.aload 5, 2) := by decide +kernel
theorem d5_30 : decode jdk_52_method_16_code 30 = .ok (.iload 4, 2) := by decide +kernel
theorem d5_32 : decode jdk_52_method_16_code 32 = .ok (.invokestatic 71, 3) := by decide +kernel
theorem d5_35 : decode jdk_52_method_16_code 35 = .ok (.sipush 255, 3) := by decide +kernel
theorem d5_38 : decode jdk_52_method_16_code 38 = .ok (.if_icmp .gt 16, 3) := by decide +kernel
theorem d5_54 : decode jdk_52_method_16_code 54 = .ok (.aload 5, 2) := by decide +kernel
theorem d5_56 : decode jdk_52_method_16_code 56 = .ok (.areturn, 1) := by decide +kernel
theorem d7_0 : decode jdk_52_method_15_code 0 = .ok (.iload_n 1, 1) := by decide +kernel
theorem d7_1 : decode jdk_52_method_15_code 1 = .ok (.aload_n 0, 1) := by decide +kernel
theorem d7_2 : decode jdk_52_method_15_code 2 = .ok (.arraylength, 1) := by decide +kernel
theorem d7_3 : decode jdk_52_method_15_code 3 = .ok (.isub, 1) := by decide +kernel
theorem d7_4 : decode jdk_52_method_15_code 4 = .ok (.bipush 31, 2) := by decide +kernel
theorem d7_6 : decode jdk_52_method_15_code 6 = .ok (.iushr, 1) := by decide +kernel
theorem d7_7 : decode jdk_52_method_15_code 7 = .ok (.i2b, 1) := by decide +kernel
theorem d7_8 : decode jdk_52_method_15_code 8 = .ok (.ireturn, 1) := by decide +kernel
theorem d3_0 : decode jdk_42_method_149_code 0 = .ok (.aload_n 0, 1) := by decide +kernel
theorem d3_1 : decode jdk_42_method_149_code 1 = .ok (.invokespecial 1, 3) := by decide +kernel
theorem d3_4 : decode jdk_42_method_149_code 4 = .ok (.iload_n 3, 1) := by decide +kernel
theorem d3_5 : decode jdk_42_method_149_code 5 = .ok (.ifCond .ne 22, 3) := by decide +kernel
theorem d3_27 : decode jdk_42_method_149_code 27 = .ok (.getstatic 38, 3) := by decide +kernel
theorem d3_30 : decode jdk_42_method_149_code 30 = .ok (.ifCond .eq 28, 3) := by decide +kernel
theorem d3_33 : decode jdk_42_method_149_code 33 = .ok (.aload_n 1, 1) := by decide +kernel
theorem d3_34 : decode jdk_42_method_149_code 34 = .ok (.iload_n 2, 1) := by decide +kernel
theorem d3_35 : decode jdk_42_method_149_code 35 = .ok (.iload_n 3, 1) := by decide +kernel
theorem d3_36 : decode jdk_42_method_149_code 36 = .ok (.invokestatic 177, 3) := by decide +kernel
theorem d3_39 : decode jdk_42_method_149_code 39 = .ok (.astore 5, 2) := by decide +kernel
theorem d3_41 : decode jdk_42_method_149_code 41 = .ok (.aload_n 0, 1) := by decide +kernel
theorem d3_42 : decode jdk_42_method_149_code 42 = .ok (.aload 5, 2) := by decide +kernel
theorem d3_44 : decode jdk_42_method_149_code 44 = .ok (.iload_n 3, 1) := by decide +kernel
theorem d3_45 : decode jdk_42_method_149_code 45 = .ok (.invokestatic 47, 3) := by decide +kernel
theorem d3_48 : decode jdk_42_method_149_code 48 = .ok (.putfield 15, 3) := by decide +kernel
theorem d3_51 : decode jdk_42_method_149_code 51 = .ok (.aload_n 0, 1) := by decide +kernel
theorem d3_52 : decode jdk_42_method_149_code 52 = .ok (.aload 5, 2) := by decide +kernel
theorem d3_54 : decode jdk_42_method_149_code 54 = .ok (.putfield 9, 3) := by decide +kernel
theorem d3_57 : decode jdk_42_method_149_code 57 = .ok (.return_, 1) := by decide +kernel
theorem d2_0 : decode jdk_42_method_3_code 0 = .ok (.aload_n 0, 1) := by decide +kernel
theorem d2_1 : decode jdk_42_method_3_code 1 = .ok (.aload_n 1, 1) := by decide +kernel
theorem d2_2 : decode jdk_42_method_3_code 2 = .ok (.iconst 0, 1) := by decide +kernel
theorem d2_3 : decode jdk_42_method_3_code 3 = .ok (.aload_n 1, 1) := by decide +kernel
theorem d2_4 : decode jdk_42_method_3_code 4 = .ok (.arraylength, 1) := by decide +kernel
theorem d2_5 : decode jdk_42_method_3_code 5 = .ok (.aconst_null, 1) := by decide +kernel
theorem d2_6 : decode jdk_42_method_3_code 6 = .ok (.invokespecial 27, 3) := by decide +kernel
theorem d2_9 : decode jdk_42_method_3_code 9 = .ok (.return_, 1) := by decide +kernel
theorem d17_0 : decode jdk_42_method_154_code 0 = .ok (.getstatic 38, 3) := by decide +kernel
theorem d17_3 : decode jdk_42_method_154_code 3 = .ok (.ifCond .eq 14, 3) := by decide +kernel
theorem d17_6 : decode jdk_42_method_154_code 6 = .ok (.aload_n 0, 1) := by decide +kernel
theorem d17_7 : decode jdk_42_method_154_code 7 = .ok (.getfield 15, 3) := by decide +kernel
theorem d17_10 : decode jdk_42_method_154_code 10 = .ok (.ifCond .ne 7, 3) := by decide +kernel
theorem d17_13 : decode jdk_42_method_154_code 13 = .ok (.iconst 1, 1) := by decide +kernel
theorem d17_14 : decode jdk_42_method_154_code 14 = .ok (.goto 4, 3) := by decide +kernel
theorem d17_18 : decode jdk_42_method_154_code 18 = .ok (.ireturn, 1) := by decide +kernel
theorem d17_17 : decode jdk_42_method_154_code 17 = .ok (.iconst 0, 1) := by decide +kernel
theorem d23_0 : decode jdk_52_method_6_code 0 = .ok (.aload_n 0, 1) := by decide +kernel
theorem d23_1 : decode jdk_52_method_6_code 1 = .ok (.arraylength, 1) := by decide +kernel
theorem d23_2 : decode jdk_52_method_6_code 2 = .ok (.iconst 1, 1) := by decide +kernel
theorem d23_3 : decode jdk_52_method_6_code 3 = .ok (.ishr, 1) := by decide +kernel
theorem d23_4 : decode jdk_52_method_6_code 4 = .ok (.ireturn, 1) := by decide +kernel
theorem d20_0 : decode jdk_41_method_11_code 0 = .ok (.iload_n 0, 1) := by decide +kernel
theorem d20_1 : decode jdk_41_method_11_code 1 = .ok (.ifCond .lt 8, 3) := by decide +kernel
theorem d20_4 : decode jdk_41_method_11_code 4 = .ok (.iload_n 0, 1) := by decide +kernel
theorem d20_5 : decode jdk_41_method_11_code 5 = .ok (.iload_n 1, 1) := by decide +kernel
theorem d20_6 : decode jdk_41_method_11_code 6 = .ok (.if_icmp .lt 10, 3) := by decide +kernel
theorem d20_16 : decode jdk_41_method_11_code 16 = .ok (.iload_n 0, 1) := by decide +kernel
theorem d20_17 : decode jdk_41_method_11_code 17 = .ok (.ireturn, 1) := by decide +kernel
theorem d19_0 : decode jdk_42_method_155_code 0 = .ok (.iload_n 0, 1) := by decide +kernel
theorem d19_1 : decode jdk_42_method_155_code 1 = .ok (.iload_n 1, 1) := by decide +kernel
theorem d19_2 : decode jdk_42_method_155_code 2 = .ok (.getstatic 1053, 3) := by decide +kernel
theorem d19_5 : decode jdk_42_method_155_code 5 = .ok (.invokestatic 1059, 3) := by decide +kernel
theorem d19_8 : decode jdk_42_method_155_code 8 = .ok (.pop, 1) := by decide +kernel
theorem d19_9 : decode jdk_42_method_155_code 9 = .ok (.return_, 1) := by decide +kernel
theorem d18_0 : decode jdk_43_method_2_code 0 = .ok (.iload_n 1, 1) := by decide +kernel
theorem d18_1 : decode jdk_43_method_2_code 1 = .ok (.aload_n 0, 1) := by decide +kernel
theorem d18_2 : decode jdk_43_method_2_code 2 = .ok (.arraylength, 1) := by decide +kernel
theorem d18_3 : decode jdk_43_method_2_code 3 = .ok (.invokestatic 9, 3) := by decide +kernel
theorem d18_6 : decode jdk_43_method_2_code 6 = .ok (.aload_n 0, 1) := by decide +kernel
theorem d18_7 : decode jdk_43_method_2_code 7 = .ok (.iload_n 1, 1) := by decide +kernel
theorem d18_8 : decode jdk_43_method_2_code 8 = .ok (.baload, 1) := by decide +kernel
theorem d18_9 : decode jdk_43_method_2_code 9 = .ok (.sipush 255, 3) := by decide +kernel
theorem d18_12 : decode jdk_43_method_2_code 12 = .ok (.iand, 1) := by decide +kernel
theorem d18_13 : decode jdk_43_method_2_code 13 = .ok (.i2c, 1) := by decide +kernel
theorem d18_14 : decode jdk_43_method_2_code 14 = .ok (.ireturn, 1) := by decide +kernel
theorem d22_0 : decode jdk_52_method_91_code 0 = .ok (.iload_n 0, 1) := by decide +kernel
theorem d22_1 : decode jdk_52_method_91_code 1 = .ok (.aload_n 1, 1) := by decide +kernel
theorem d22_2 : decode jdk_52_method_91_code 2 = .ok (.invokestatic 48, 3) := by decide +kernel
theorem d22_5 : decode jdk_52_method_91_code 5 = .ok (.invokestatic 414, 3) := by decide +kernel
theorem d22_8 : decode jdk_52_method_91_code 8 = .ok (.return_, 1) := by decide +kernel
theorem d21_0 : decode jdk_52_method_83_code 0 = .ok (.iload_n 1, 1) := by decide +kernel
theorem d21_1 : decode jdk_52_method_83_code 1 = .ok (.aload_n 0, 1) := by decide +kernel
theorem d21_2 : decode jdk_52_method_83_code 2 = .ok (.invokestatic 67, 3) := by decide +kernel
theorem d21_5 : decode jdk_52_method_83_code 5 = .ok (.aload_n 0, 1) := by decide +kernel
theorem d21_6 : decode jdk_52_method_83_code 6 = .ok (.iload_n 1, 1) := by decide +kernel
theorem d21_7 : decode jdk_52_method_83_code 7 = .ok (.invokestatic 71, 3) := by decide +kernel
theorem d21_10 : decode jdk_52_method_83_code 10 = .ok (.ireturn, 1) := by decide +kernel
theorem d16_0 : decode jdk_42_method_56_code 0 = .ok (.aload_n 0, 1) := by decide +kernel
theorem d16_1 : decode jdk_42_method_56_code 1 = .ok (.invokevirtual 492, 3) := by decide +kernel
theorem d16_4 : decode jdk_42_method_56_code 4 = .ok (.ifCond .eq 12, 3) := by decide +kernel
theorem d16_7 : decode jdk_42_method_56_code 7 = .ok (.aload_n 0, 1) := by decide +kernel
theorem d16_8 : decode jdk_42_method_56_code 8 = .ok (.getfield 9, 3) := by decide +kernel
theorem d16_11 : decode jdk_42_method_56_code 11 = .ok (.iload_n 1, 1) := by decide +kernel
theorem d16_12 : decode jdk_42_method_56_code 12 = .ok (.invokestatic 495, 3) := by decide +kernel
theorem d16_15 : decode jdk_42_method_56_code 15 = .ok (.ireturn, 1) := by decide +kernel
theorem d16_16 : decode jdk_42_method_56_code 16 = .ok (.aload_n 0, 1) := by decide +kernel
theorem d16_17 : decode jdk_42_method_56_code 17 = .ok (.getfield 9, 3) := by decide +kernel
theorem d16_20 : decode jdk_42_method_56_code 20 = .ok (.iload_n 1, 1) := by decide +kernel
theorem d16_21 : decode jdk_42_method_56_code 21 = .ok (.invokestatic 498, 3) := by decide +kernel
theorem d16_24 : decode jdk_42_method_56_code 24 = .ok (.ireturn, 1) := by decide +kernel
theorem d8_9 : decode prog_73_method_5_code 9 = .ok (.iload_n 3, 1) := by decide +kernel
theorem d8_10 : decode prog_73_method_5_code 10 = .ok (.iload_n 2, 1) := by decide +kernel
theorem d8_11 : decode prog_73_method_5_code 11 = .ok (.if_icmp .ge 32, 3) := by decide +kernel
theorem d8_43 : decode prog_73_method_5_code 43 = .ok (.iconst 1, 1) := by decide +kernel
theorem d8_44 : decode prog_73_method_5_code 44 = .ok (.ireturn, 1) := by decide +kernel
theorem d8_14 : decode prog_73_method_5_code 14 = .ok (.aload_n 0, 1) := by decide +kernel
theorem d8_15 : decode prog_73_method_5_code 15 = .ok (.iload_n 3, 1) := by decide +kernel
theorem d8_16 : decode prog_73_method_5_code 16 = .ok (.invokevirtual 84, 3) := by decide +kernel
theorem d8_19 : decode prog_73_method_5_code 19 = .ok (.istore 4, 2) := by decide +kernel
theorem d8_21 : decode prog_73_method_5_code 21 = .ok (.iload 4, 2) := by decide +kernel
theorem d8_23 : decode prog_73_method_5_code 23 = .ok (.bipush 48, 2) := by decide +kernel
theorem d8_25 : decode prog_73_method_5_code 25 = .ok (.if_icmp .lt 10, 3) := by decide +kernel
theorem d8_35 : decode prog_73_method_5_code 35 = .ok (.iconst 0, 1) := by decide +kernel
theorem d8_36 : decode prog_73_method_5_code 36 = .ok (.ireturn, 1) := by decide +kernel
theorem d8_28 : decode prog_73_method_5_code 28 = .ok (.iload 4, 2) := by decide +kernel
theorem d8_30 : decode prog_73_method_5_code 30 = .ok (.bipush 57, 2) := by decide +kernel
theorem d8_32 : decode prog_73_method_5_code 32 = .ok (.if_icmp .le 5, 3) := by decide +kernel
theorem d8_37 : decode prog_73_method_5_code 37 = .ok (.iinc 3 1, 3) := by decide +kernel
theorem d8_40 : decode prog_73_method_5_code 40 = .ok (.goto (-31), 3) := by decide +kernel
theorem d8_0 : decode prog_73_method_5_code 0 = .ok (.iload_n 1, 1) := by decide +kernel
theorem d8_1 : decode prog_73_method_5_code 1 = .ok (.iload_n 2, 1) := by decide +kernel
theorem d8_2 : decode prog_73_method_5_code 2 = .ok (.if_icmp .lt 5, 3) := by decide +kernel
theorem d8_7 : decode prog_73_method_5_code 7 = .ok (.iload_n 1, 1) := by decide +kernel
theorem d8_8 : decode prog_73_method_5_code 8 = .ok (.istore_n 3, 1) := by decide +kernel
theorem d8_5 : decode prog_73_method_5_code 5 = .ok (.iconst 0, 1) := by decide +kernel
theorem d8_6 : decode prog_73_method_5_code 6 = .ok (.ireturn, 1) := by decide +kernel
theorem pd0 : parseMethodDescriptor "(C)Z" = some ⟨[.char], some .boolean⟩ := by decide +kernel
theorem pd1 : parseMethodDescriptor "(I)I" = some ⟨[.int], some .int⟩ := by decide +kernel
theorem pd2 : parseMethodDescriptor "(I)[B" = some ⟨[.int], some (.array .byte)⟩ := by decide +kernel
theorem pd3 : parseMethodDescriptor "([BII)V" = some ⟨[(.array .byte), .int, .int], none⟩ := by decide +kernel
theorem pd4 : parseMethodDescriptor "([CI[BII)I" = some ⟨[(.array .char), .int, (.array .byte), .int, .int], some .int⟩ := by decide +kernel
theorem pd5 : parseMethodDescriptor "([CII)[B" = some ⟨[(.array .char), .int, .int], some (.array .byte)⟩ := by decide +kernel
theorem pd6 : parseMethodDescriptor "([BI)C" = some ⟨[(.array .byte), .int], some .char⟩ := by decide +kernel
theorem pd7 : parseMethodDescriptor "([BI)B" = some ⟨[(.array .byte), .int], some .byte⟩ := by decide +kernel
theorem pd8 : parseMethodDescriptor "([CIILjava/lang/Void;)V" = some ⟨[(.array .char), .int, .int, (.object "java/lang/Void")], none⟩ := by decide +kernel
theorem pd9 : parseMethodDescriptor "(IILjava/util/function/BiFunction;)I" = some ⟨[.int, .int, (.object "java/util/function/BiFunction")], some .int⟩ := by decide +kernel
theorem pd10 : parseMethodDescriptor "(II)V" = some ⟨[.int, .int], none⟩ := by decide +kernel
theorem pd11 : parseMethodDescriptor "([B)I" = some ⟨[(.array .byte)], some .int⟩ := by decide +kernel
theorem pd12 : parseMethodDescriptor "(I[B)V" = some ⟨[.int, (.array .byte)], none⟩ := by decide +kernel
theorem pd13 : parseMethodDescriptor "()Z" = some ⟨[], some .boolean⟩ := by decide +kernel
theorem pd14 : parseMethodDescriptor "(I)C" = some ⟨[.int], some .char⟩ := by decide +kernel
theorem pd15 : parseMethodDescriptor "([C)V" = some ⟨[(.array .char)], none⟩ := by decide +kernel
theorem pd16 : parseMethodDescriptor "(Ljava/lang/String;II)Z" = some ⟨[(.object "java/lang/String"), .int, .int], some .boolean⟩ := by decide +kernel
theorem pd17 : parseMethodDescriptor "(IIIC)Z" = some ⟨[.int, .int, .int, .char], some .boolean⟩ := by decide +kernel
theorem pn0 : plainFor (⟨"com/example/overplan/overplan/util/PlainNumberIsDigitsPinLaw", "draw", "(I)C"⟩ : MethodName) = true := plainFor_of_name (by first | (simp [plainName, overriddenIn]; done) | decide +kernel)
theorem pn1 : plainFor (⟨"com/example/overplan/overplan/util/PlainNumberIsDigitsPinLaw", "digit", "(C)Z"⟩ : MethodName) = true := plainFor_of_name (by first | (simp [plainName, overriddenIn]; done) | decide +kernel)
theorem pn2 : plainFor (⟨"com/example/overplan/overplan/util/PlainNumberIsDigitsPinLaw", "ok", "(IIIC)Z"⟩ : MethodName) = true := plainFor_of_name (by first | (simp [plainName, overriddenIn]; done) | decide +kernel)
theorem pn3 : plainFor (⟨"java/lang/StringUTF16", "compress", "([CI[BII)I"⟩ : MethodName) = true := plainFor_of_name (by first | (simp [plainName, overriddenIn]; done) | decide +kernel)
theorem pn4 : plainFor (⟨"java/lang/StringUTF16", "newBytesLength", "(I)I"⟩ : MethodName) = true := plainFor_of_name (by first | (simp [plainName, overriddenIn]; done) | decide +kernel)
theorem pn5 : plainFor (⟨"java/lang/StringUTF16", "newBytesFor", "(I)[B"⟩ : MethodName) = true := plainFor_of_name (by first | (simp [plainName, overriddenIn]; done) | decide +kernel)
theorem pn6 : plainFor (⟨"java/lang/StringUTF16", "putChar", "([BII)V"⟩ : MethodName) = true := plainFor_of_name (by first | (simp [plainName, overriddenIn]; done) | decide +kernel)
theorem pn7 : plainFor (⟨"java/lang/StringUTF16", "getChar", "([BI)C"⟩ : MethodName) = true := plainFor_of_name (by first | (simp [plainName, overriddenIn]; done) | decide +kernel)
theorem pn8 : plainFor (⟨"java/lang/StringUTF16", "toBytes", "([CII)[B"⟩ : MethodName) = true := plainFor_of_name (by first | (simp [plainName, overriddenIn]; done) | decide +kernel)
theorem pn9 : plainFor (⟨"java/lang/StringUTF16", "compress", "([CII)[B"⟩ : MethodName) = true := plainFor_of_name (by first | (simp [plainName, overriddenIn]; done) | decide +kernel)
theorem pn10 : plainFor (⟨"java/lang/StringUTF16", "coderFromArrayLen", "([BI)B"⟩ : MethodName) = true := plainFor_of_name (by first | (simp [plainName, overriddenIn]; done) | decide +kernel)
theorem pn11 : plainFor (⟨"java/lang/String", "<init>", "([CIILjava/lang/Void;)V"⟩ : MethodName) = true := plainFor_of_name (by first | (simp [plainName, overriddenIn]; done) | decide +kernel)
theorem pn12 : plainFor (⟨"java/lang/String", "<init>", "([C)V"⟩ : MethodName) = true := plainFor_of_name (by first | (simp [plainName, overriddenIn]; done) | decide +kernel)
theorem pn13 : plainFor (⟨"java/lang/String", "isLatin1", "()Z"⟩ : MethodName) = true := plainFor_of_name (by first | (simp [plainName, overriddenIn]; done) | decide +kernel)
theorem pn14 : plainFor (⟨"java/lang/StringUTF16", "length", "([B)I"⟩ : MethodName) = true := plainFor_of_name (by first | (simp [plainName, overriddenIn]; done) | decide +kernel)
theorem pn15 : plainFor (⟨"jdk/internal/util/Preconditions", "checkIndex", "(IILjava/util/function/BiFunction;)I"⟩ : MethodName) = true := plainFor_of_name (by first | (simp [plainName, overriddenIn]; done) | decide +kernel)
theorem pn16 : plainFor (⟨"java/lang/String", "checkIndex", "(II)V"⟩ : MethodName) = true := plainFor_of_name (by first | (simp [plainName, overriddenIn]; done) | decide +kernel)
theorem pn17 : plainFor (⟨"java/lang/StringLatin1", "charAt", "([BI)C"⟩ : MethodName) = true := plainFor_of_name (by first | (simp [plainName, overriddenIn]; done) | decide +kernel)
theorem pn18 : plainFor (⟨"java/lang/StringUTF16", "checkIndex", "(I[B)V"⟩ : MethodName) = true := plainFor_of_name (by first | (simp [plainName, overriddenIn]; done) | decide +kernel)
theorem pn19 : plainFor (⟨"java/lang/StringUTF16", "charAt", "([BI)C"⟩ : MethodName) = true := plainFor_of_name (by first | (simp [plainName, overriddenIn]; done) | decide +kernel)
theorem pn20 : plainFor (⟨"java/lang/String", "charAt", "(I)C"⟩ : MethodName) = true := plainFor_of_name (by first | (simp [plainName, overriddenIn]; done) | decide +kernel)
theorem pn21 : plainFor (⟨"com/example/overplan/overplan/util/PlainNumber", "isDigits", "(Ljava/lang/String;II)Z"⟩ : MethodName) = true := plainFor_of_name (by first | (simp [plainName, overriddenIn]; done) | decide +kernel)
theorem pn22 : plainFor (⟨"com/example/overplan/overplan/util/PlainNumberIsDigitsPinLaw", "law", "(IIIII)Z"⟩ : MethodName) = true := plainFor_of_name (by first | (simp [plainName, overriddenIn]; done) | decide +kernel)
theorem own_slots {Z : State} {a0 : Array Value} (hw : ∀ d ∈ tables_1, d.before a0 Z = true) : Jvm.RoadKit.slotOf Z "java/lang/String" "coder" "B" ≠ Jvm.RoadKit.slotOf Z "java/lang/String" "value" "[B" := slot_ne (C := "java/lang/String") (a0 := a0) (Or.inr (hw _ (List.mem_of_getElem? (i := 33) rfl))) (Or.inr (hw _ (List.mem_of_getElem? (i := 35) rfl))) (by decide) (t := .byte) (t' := .array .byte) (by decide) (by decide)
def own_b8 (c : Int32) : Int32 := nar .byte c.toInt8.toInt32
def own_lo (c : Int32) : Int32 := nar .byte (c >>> ((0 : Int32) &&& 31)).toInt8.toInt32
def own_hi (c : Int32) : Int32 := nar .byte (c >>> ((8 : Int32) &&& 31)).toInt8.toInt32
def S4 (Z : State) (h : Heap) (a : Addr) (c0 c1 c2 c3 : Int32) : Prop := ∃ (t : Addr) (k : ClassId), Exa Z h a "java/lang/String" ∧ Fld Z h a "java/lang/String" "value" "[B" (.ref t) ∧
  ((Fld Z h a "java/lang/String" "coder" "B" (.int 0) ∧ (¬ (255 : Int32) < c0 ∧ ¬ (255 : Int32) < c1 ∧ ¬ (255 : Int32) < c2 ∧ ¬ (255 : Int32) < c3) ∧ Arv Z h t k .byte (4 : Int32) [.int (own_b8 c0), .int (own_b8 c1), .int (own_b8 c2), .int (own_b8 c3)] (.int (0 : Int32))) ∨ (Fld Z h a "java/lang/String" "coder" "B" (.int 1) ∧ Arv Z h t k .byte (8 : Int32) [.int (own_lo c0), .int (own_hi c0), .int (own_lo c1), .int (own_hi c1), .int (own_lo c2), .int (own_hi c2), .int (own_lo c3), .int (own_hi c3)] (.int (0 : Int32))))
def own_dg (x : Int32) : Int32 := if x < (48 : Int32) then 0 else if (57 : Int32) < x then 0 else 1
def own_ok (i f t x : Int32) : Int32 := if i < f then 1 else if i < t then own_dg x else 1
def own_fr4 (t c0 c1 c2 c3 : Int32) : Int32 := 1
def own_fr3 (t c0 c1 c2 c3 : Int32) : Int32 := if (3 : Int32) < t then (if own_dg c3 = 0 then 0 else own_fr4 t c0 c1 c2 c3) else 1
def own_fr2 (t c0 c1 c2 c3 : Int32) : Int32 := if (2 : Int32) < t then (if own_dg c2 = 0 then 0 else own_fr3 t c0 c1 c2 c3) else 1
def own_fr1 (t c0 c1 c2 c3 : Int32) : Int32 := if (1 : Int32) < t then (if own_dg c1 = 0 then 0 else own_fr2 t c0 c1 c2 c3) else 1
def own_fr0 (t c0 c1 c2 c3 : Int32) : Int32 := if (0 : Int32) < t then (if own_dg c0 = 0 then 0 else own_fr1 t c0 c1 c2 c3) else 1
def own_is (f t c0 c1 c2 c3 : Int32) : Int32 := if f < t then (if f = 0 then own_fr0 t c0 c1 c2 c3 else if f = 1 then own_fr1 t c0 c1 c2 c3 else if f = 2 then own_fr2 t c0 c1 c2 c3 else if f = 3 then own_fr3 t c0 c1 c2 c3 else own_fr4 t c0 c1 c2 c3) else 0
def own_ex (f t c0 c1 c2 c3 : Int32) : Int32 := if f < t then (if own_ok 0 f t c0 = 0 then 0 else if own_ok 1 f t c1 = 0 then 0 else if own_ok 2 f t c2 = 0 then 0 else if own_ok 3 f t c3 = 0 then 0 else 1) else 0
theorem own_dg01 (x : Int32) : own_dg x = 0 ∨ own_dg x = 1 := by
  rw [own_dg]; split
  · exact Or.inl rfl
  · split
    · exact Or.inl rfl
    · exact Or.inr rfl
theorem own_ok01 (i f t x : Int32) : own_ok i f t x = 0 ∨ own_ok i f t x = 1 := by
  rw [own_ok]; split
  · exact Or.inr rfl
  · split
    · exact own_dg01 x
    · exact Or.inr rfl
theorem own_le4 {t : Int32} (h : t = 0 ∨ t = 1 ∨ t = 2 ∨ t = 3 ∨ t = 4) : ¬ (4 : Int32) < t := by rcases h with rfl | rfl | rfl | rfl | rfl <;> decide
def own_isD (f t d0 d1 d2 d3 : Int32) : Int32 := if f < t then (if f = 0 then (if (0 : Int32) < t then (if d0 = 0 then 0 else (if (1 : Int32) < t then (if d1 = 0 then 0 else (if (2 : Int32) < t then (if d2 = 0 then 0 else (if (3 : Int32) < t then (if d3 = 0 then 0 else 1) else 1)) else 1)) else 1)) else 1)
  else if f = 1 then (if (1 : Int32) < t then (if d1 = 0 then 0 else (if (2 : Int32) < t then (if d2 = 0 then 0 else (if (3 : Int32) < t then (if d3 = 0 then 0 else 1) else 1)) else 1)) else 1) else if f = 2 then (if (2 : Int32) < t then (if d2 = 0 then 0 else (if (3 : Int32) < t then (if d3 = 0 then 0 else 1) else 1)) else 1) else if f = 3 then (if (3 : Int32) < t then (if d3 = 0 then 0 else 1) else 1) else 1) else 0
def own_okD (i f t d : Int32) : Int32 := if i < f then 1 else if i < t then d else 1
def own_exD (f t d0 d1 d2 d3 : Int32) : Int32 := if f < t then (if own_okD 0 f t d0 = 0 then 0 else if own_okD 1 f t d1 = 0 then 0 else if own_okD 2 f t d2 = 0 then 0 else if own_okD 3 f t d3 = 0 then 0 else 1) else 0
theorem own_agree {f t c0 c1 c2 c3 : Int32} (hf : f = 0 ∨ f = 1 ∨ f = 2 ∨ f = 3 ∨ f = 4) (ht : t = 0 ∨ t = 1 ∨ t = 2 ∨ t = 3 ∨ t = 4) : own_is f t c0 c1 c2 c3 = own_ex f t c0 c1 c2 c3 := by
  show own_isD f t (own_dg c0) (own_dg c1) (own_dg c2) (own_dg c3) = own_exD f t (own_dg c0) (own_dg c1) (own_dg c2) (own_dg c3)
  have q : ∀ f t : Fin 5, ∀ a b c d : Fin 2, own_isD (Int32.ofNat f.val) (Int32.ofNat t.val) (Int32.ofNat a.val) (Int32.ofNat b.val) (Int32.ofNat c.val) (Int32.ofNat d.val) = own_exD (Int32.ofNat f.val) (Int32.ofNat t.val) (Int32.ofNat a.val) (Int32.ofNat b.val) (Int32.ofNat c.val) (Int32.ofNat d.val) := by decide +kernel
  have z5 : ∀ {x : Int32}, (x = 0 ∨ x = 1 ∨ x = 2 ∨ x = 3 ∨ x = 4) → ∃ k : Fin 5, x = Int32.ofNat k.val := fun h => by
    rcases h with rfl | rfl | rfl | rfl | rfl
    · exact ⟨0, rfl⟩
    · exact ⟨1, rfl⟩
    · exact ⟨2, rfl⟩
    · exact ⟨3, rfl⟩
    · exact ⟨4, rfl⟩
  have z2 : ∀ x : Int32, ∃ k : Fin 2, own_dg x = Int32.ofNat k.val := fun x => by
    rcases own_dg01 x with e | e <;> rw [e]
    · exact ⟨0, rfl⟩
    · exact ⟨1, rfl⟩
  obtain ⟨f, rfl⟩ := z5 hf
  obtain ⟨t, rfl⟩ := z5 ht
  obtain ⟨a, e0⟩ := z2 c0
  obtain ⟨b, e1⟩ := z2 c1
  obtain ⟨c, e2⟩ := z2 c2
  obtain ⟨d, e3⟩ := z2 c3
  rw [e0, e1, e2, e3]; exact q f t a b c d
theorem own_fin (x m : Int32) (n : Nat) (hm : m.toBitVec.toNat < n) : ∃ k : Fin n, x &&& m = Int32.ofNat k.val := by
  have h : (x &&& m).toBitVec.toNat < n := by
    simp only [Int32.toBitVec_and, BitVec.toNat_and]
    exact Nat.lt_of_le_of_lt Nat.and_le_right hm
  refine ⟨⟨_, h⟩, ?_⟩
  apply Int32.toBitVec_inj.mp
  show _ = BitVec.ofNat 32 _
  rw [BitVec.ofNat_toNat]; simp
theorem own_five {x v : Int32} (e : (x &&& (7 : Int32)) % (5 : Int32) = v) : v = 0 ∨ v = 1 ∨ v = 2 ∨ v = 3 ∨ v = 4 := by
  have t : ∀ k : Fin 8, (Int32.ofNat k.val) % (5 : Int32) = 0 ∨ (Int32.ofNat k.val) % (5 : Int32) = 1 ∨ (Int32.ofNat k.val) % (5 : Int32) = 2 ∨ (Int32.ofNat k.val) % (5 : Int32) = 3 ∨ (Int32.ofNat k.val) % (5 : Int32) = 4 := by decide +kernel
  obtain ⟨k, q⟩ := own_fin x 7 8 (by decide)
  rw [q] at e; rw [← e]; exact t k
theorem own_n16 (t : Int32) : ¬ nar .char t < 0 ∧ ¬ (65535 : Int32) < nar .char t := by
  have e := c_i2c t
  have z0 : (0 : Int32).toInt = 0 := rfl
  have z1 : (65535 : Int32).toInt = 65535 := rfl
  simp only [Int32.lt_iff_toInt_lt]
  show ¬ (t.toUInt32.toUInt16.toUInt32.toInt32).toInt < _ ∧ ¬ _ < (t.toUInt32.toUInt16.toUInt32.toInt32).toInt
  omega
theorem own_nc16 {c : Int32} (h : ¬ c < 0 ∧ ¬ (65535 : Int32) < c) : nar .char c = c := by
  apply Int32.toInt_inj.mp
  have e := c_i2c c
  simp only [Int32.lt_iff_toInt_lt] at h
  have z0 : (0 : Int32).toInt = 0 := rfl
  have z1 : (65535 : Int32).toInt = 65535 := rfl
  show (c.toUInt32.toUInt16.toUInt32.toInt32).toInt = c.toInt
  omega
theorem own_nat {c : Int32} {n : Nat} {N : Int32} (hn : n < 2 ^ 31) (hN : N.toInt = (n : Int) - 1) (h : ¬ c < 0 ∧ ¬ N < c) : ∃ k : Nat, k < n ∧ c = Int32.ofNat k := by
  simp only [Int32.lt_iff_toInt_lt] at h
  have z0 : (0 : Int32).toInt = 0 := rfl
  refine ⟨c.toInt.toNat, by omega, ?_⟩
  apply Int32.toInt_inj.mp
  rw [Int32.toInt_ofNat_small (by omega)]; omega
theorem own_l8 {c : Int32} (r : ¬ c < 0 ∧ ¬ (65535 : Int32) < c) (h : ¬ (255 : Int32) < c) : nar .char (own_b8 c &&& (255 : Int32)).toUInt32.toUInt16.toUInt32.toInt32 = c := by
  have t : ∀ k : Fin 256, nar .char (own_b8 (Int32.ofNat k.val) &&& (255 : Int32)).toUInt32.toUInt16.toUInt32.toInt32 = Int32.ofNat k.val := by decide +kernel
  obtain ⟨k, hk, rfl⟩ := own_nat (n := 256) (N := 255) (by decide) rfl ⟨r.1, h⟩
  exact t ⟨k, hk⟩
theorem own_sh (k : Nat) (h : k < 65536) : Int32.ofNat k >>> ((8 : Int32) &&& 31) = Int32.ofNat (k / 256) := by
  rw [show ((8 : Int32) &&& 31) = 8 from by decide]
  apply Int32.toBitVec_inj.mp
  rw [Int32.toBitVec_shiftRight]
  show (BitVec.ofNat 32 k).sshiftRight' _ = BitVec.ofNat 32 _
  have e : ((8 : Int32).toBitVec.smod 32) = 8#32 := by decide
  rw [e, BitVec.sshiftRight', BitVec.sshiftRight_eq_of_msb_false (by rw [BitVec.msb_eq_false_iff_two_mul_lt]; simp; omega)]
  apply BitVec.eq_of_toNat_eq
  simp [Nat.shiftRight_eq_div_pow]
  omega
theorem own_split (lo hi : Nat) (h1 : lo < 256) (h2 : hi < 256) : own_lo (Int32.ofNat (lo + 256 * hi)) &&& (255 : Int32) = Int32.ofNat lo ∧ own_hi (Int32.ofNat (lo + 256 * hi)) &&& (255 : Int32) = Int32.ofNat hi := by
  have t : ∀ k : Fin 256, (nar .byte (Int8.ofNat k.val).toInt32) &&& (255 : Int32) = Int32.ofNat k.val := by decide +kernel
  have e1 : (Int32.ofNat (lo + 256 * hi) >>> ((0 : Int32) &&& 31)).toInt8 = Int8.ofNat lo := by
    rw [show Int32.ofNat (lo + 256 * hi) >>> ((0 : Int32) &&& 31) = Int32.ofNat (lo + 256 * hi) from by
      apply Int32.toBitVec_inj.mp
      rw [Int32.toBitVec_shiftRight, show (((0 : Int32) &&& 31).toBitVec.smod 32) = 0#32 from by decide]
      simp [BitVec.sshiftRight']]
    apply Int8.toBitVec_inj.mp
    apply BitVec.eq_of_toNat_eq
    show ((BitVec.ofNat 32 (lo + 256 * hi)).signExtend 8).toNat = (BitVec.ofNat 8 lo).toNat
    rw [BitVec.signExtend_eq_setWidth_of_le _ (by decide)]
    simp
  have e2 : (Int32.ofNat (lo + 256 * hi) >>> ((8 : Int32) &&& 31)).toInt8 = Int8.ofNat hi := by
    rw [own_sh _ (by omega), show (lo + 256 * hi) / 256 = hi from by omega]
    apply Int8.toBitVec_inj.mp
    apply BitVec.eq_of_toNat_eq
    show ((BitVec.ofNat 32 hi).signExtend 8).toNat = (BitVec.ofNat 8 hi).toNat
    rw [BitVec.signExtend_eq_setWidth_of_le _ (by decide)]
    simp
  rw [own_lo, own_hi, e1, e2]
  exact ⟨t ⟨lo, h1⟩, t ⟨hi, h2⟩⟩
theorem own_join (k : Nat) (h : k < 65536) : ((Int32.ofNat (k % 256)) <<< ((0 : Int32) &&& 31)) ||| ((Int32.ofNat (k / 256)) <<< ((8 : Int32) &&& 31)) = Int32.ofNat k := by
  apply Int32.toBitVec_inj.mp
  rw [Int32.toBitVec_or, Int32.toBitVec_shiftLeft, Int32.toBitVec_shiftLeft, show (((0 : Int32) &&& 31).toBitVec.smod 32) = 0#32 from by decide, show (((8 : Int32) &&& 31).toBitVec.smod 32) = 8#32 from by decide]
  apply BitVec.eq_of_toNat_eq
  show ((BitVec.ofNat 32 (k % 256)) <<< (0#32) ||| (BitVec.ofNat 32 (k / 256)) <<< (8#32)).toNat = (BitVec.ofNat 32 k).toNat
  rw [BitVec.toNat_or]
  simp only [BitVec.shiftLeft_eq', BitVec.toNat_shiftLeft, BitVec.toNat_ofNat]
  have a1 : k % 256 % 2 ^ 32 = k % 256 := by omega
  have a2 : k / 256 % 2 ^ 32 = k / 256 := by omega
  rw [a1, a2]
  have b : (k / 256) <<< (8 % 2 ^ 32) % 2 ^ 32 = 2 ^ 8 * (k / 256) := by rw [Nat.shiftLeft_eq, show (2 : Nat) ^ (8 % 2 ^ 32) = 256 from rfl]; omega
  have b0 : (k % 256) <<< (0 % 2 ^ 32) % 2 ^ 32 = k % 256 := by rw [Nat.shiftLeft_eq, show (2 : Nat) ^ (0 % 2 ^ 32) = 1 from rfl]; omega
  rw [b, b0, Nat.or_comm, ← Nat.two_pow_add_eq_or_of_lt (show k % 256 < 2 ^ 8 from Nat.mod_lt _ (by decide))]
  omega
theorem own_pair {c : Int32} (r : ¬ c < 0 ∧ ¬ (65535 : Int32) < c) : nar .char (((own_lo c &&& (255 : Int32)) <<< ((0 : Int32) &&& 31)) ||| ((own_hi c &&& (255 : Int32)) <<< ((8 : Int32) &&& 31))).toUInt32.toUInt16.toUInt32.toInt32 = c := by
  obtain ⟨k, hk, rfl⟩ := own_nat (n := 65536) (N := 65535) (by decide) rfl r
  obtain ⟨q1, q2⟩ := own_split (k % 256) (k / 256) (Nat.mod_lt _ (by decide)) (by omega)
  rw [Nat.mod_add_div] at q1 q2
  rw [q1, q2]
  have e := own_join k hk
  rw [e]
  have e3 := own_nc16 r
  show nar .char (nar .char (Int32.ofNat k)) = _
  rw [e3, e3]
set_option maxRecDepth 65536 in
set_option maxHeartbeats 40000000 in
theorem c_draw (l : Launch) (Z : State) (a0 : Array Value) (hw : ∀ d ∈ tables_1, d.before a0 Z = true) (n0 : Nat) (h : Heap) (Z0 : n0 ≤ h.size) (x : Int32) :
    Ctr l Z n0 (⟨"com/example/overplan/overplan/util/PlainNumberIsDigitsPinLaw", "draw", "(I)C"⟩ : MethodName) method_2_code 1 (some .char) [] ({ frames := 0, cells := 0, slots := 0, locals := 0 } : Room) #[(.int x)] h (fun v h' => ∃ y, v = some (.int y) ∧ (¬ y < 0 ∧ ¬ (65535 : Int32) < y) ∧ h = h') := by
  refine Ctr.body pn0 ?_
  intro p e s m below meth c K
  refine Go.entry (f' := (mkF m 0 #[.val (.int x)] [])) (by first | (simp [entryFrame, mkF, argsToLocals, Value.category]; done) | rfl) ?_
  refine Go.iloadN K (q := 1) rfl d1_0 rfl ?_
  refine Go.ldcInt K (q := 3) rfl (v := (65536 : Int32)) (hw _ (List.mem_of_getElem? (i := 5) rfl)) d1_1 ?_
  refine Go.iand K (q := 4) rfl d1_3 ?_
  refine Go.ifc K (q := 16) (q' := 7) (by decide) (by decide) rfl d1_4 (fun (hb : (x &&& (65536 : Int32)) = (0 : Int32)) => ?_) (fun (hb : ¬ (x &&& (65536 : Int32)) = (0 : Int32)) => ?_)
  · skip
    refine Go.iloadN K (q := 17) rfl d1_16 rfl ?_
    refine Go.ldcInt K (q := 19) rfl (v := (65535 : Int32)) (hw _ (List.mem_of_getElem? (i := 6) rfl)) d1_17 ?_
    refine Go.iand K (q := 20) rfl d1_19 ?_
    refine Go.i2c K (q := 21) rfl d1_20 ?_
    exact Go.retN K (by simp) d1_21 (by decide) (by decide) (⟨_, rfl, own_n16 _, rfl⟩)
  · skip
    refine Go.bipush K (q := 9) rfl (v := (45 : Int32)) (by decide) d1_7 ?_
    refine Go.iloadN K (q := 10) rfl d1_9 rfl ?_
    refine Go.bipush K (q := 12) rfl (v := (15 : Int32)) (by decide) d1_10 ?_
    refine Go.iand K (q := 13) rfl d1_12 ?_
    refine Go.iadd K (q := 14) rfl d1_13 ?_
    refine Go.i2c K (q := 15) rfl d1_14 ?_
    exact Go.retN K (by simp) d1_15 (by decide) (by decide) (⟨_, rfl, own_n16 _, rfl⟩)
set_option maxRecDepth 65536 in
set_option maxHeartbeats 40000000 in
theorem c_dg (l : Launch) (Z : State) (a0 : Array Value) (hw : ∀ d ∈ tables_1, d.before a0 Z = true) (n0 : Nat) (h : Heap) (Z0 : n0 ≤ h.size) (x : Int32) :
    Ctr l Z n0 (⟨"com/example/overplan/overplan/util/PlainNumberIsDigitsPinLaw", "digit", "(C)Z"⟩ : MethodName) method_3_code 1 (some .boolean) [] ({ frames := 0, cells := 0, slots := 0, locals := 0 } : Room) #[(.int x)] h (fun v h' => v = some (.int (own_dg x)) ∧ h = h') := by
  refine Ctr.body pn1 ?_
  intro p e s m below meth c K
  refine Go.entry (f' := (mkF m 0 #[.val (.int x)] [])) (by first | (simp [entryFrame, mkF, argsToLocals, Value.category]; done) | rfl) ?_
  refine Go.iloadN K (q := 1) rfl d15_0 rfl ?_
  refine Go.bipush K (q := 3) rfl (v := (48 : Int32)) (by decide) d15_1 ?_
  refine Go.icmp K (q := 16) (q' := 6) (by decide) (by decide) rfl d15_3 (fun (g0 : x < (48 : Int32)) => ?_) (fun (g0 : ¬ x < (48 : Int32)) => ?_)
  · skip
    refine Go.iconst K (q := 17) rfl (v := (0 : Int32)) (by decide) d15_16 ?_
    exact Go.retN K (by simp) d15_17 (by decide) (by decide) (⟨by rw [own_dg, if_pos g0]; rfl, rfl⟩)
  · skip
    refine Go.iloadN K (q := 7) rfl d15_6 rfl ?_
    refine Go.bipush K (q := 9) rfl (v := (57 : Int32)) (by decide) d15_7 ?_
    refine Go.icmp K (q := 16) (q' := 12) (by decide) (by decide) rfl d15_9 (fun (g1 : (57 : Int32) < x) => ?_) (fun (g1 : ¬ (57 : Int32) < x) => ?_)
    · skip
      refine Go.iconst K (q := 17) rfl (v := (0 : Int32)) (by decide) d15_16 ?_
      exact Go.retN K (by simp) d15_17 (by decide) (by decide) (⟨by rw [own_dg, if_neg g0, if_pos g1]; rfl, rfl⟩)
    · skip
      refine Go.iconst K (q := 13) rfl (v := (1 : Int32)) (by decide) d15_12 ?_
      refine Go.goto K (q := 17) (by decide) (by decide) d15_13 ?_
      exact Go.retN K (by simp) d15_17 (by decide) (by decide) (⟨by rw [own_dg, if_neg g0, if_neg g1]; rfl, rfl⟩)
set_option maxRecDepth 65536 in
set_option maxHeartbeats 40000000 in
theorem c_ok (l : Launch) (Z : State) (a0 : Array Value) (hw : ∀ d ∈ tables_1, d.before a0 Z = true) (n0 : Nat) (h : Heap) (Z0 : n0 ≤ h.size) (i f t x : Int32) :
    Ctr l Z n0 (⟨"com/example/overplan/overplan/util/PlainNumberIsDigitsPinLaw", "ok", "(IIIC)Z"⟩ : MethodName) method_4_code 4 (some .boolean) [] ({ frames := 1, cells := 0, slots := 0, locals := 12 } : Room) #[(.int i), (.int f), (.int t), (.int x)] h (fun v h' => v = some (.int (own_ok i f t x)) ∧ h = h') := by
  refine Ctr.body pn2 ?_
  intro p e s m below meth c K
  refine Go.entry (f' := (mkF m 0 #[.val (.int i), .val (.int f), .val (.int t), .val (.int x)] [])) (by first | (simp [entryFrame, mkF, argsToLocals, Value.category]; done) | rfl) ?_
  refine Go.iloadN K (q := 1) rfl d14_0 rfl ?_
  refine Go.iloadN K (q := 2) rfl d14_1 rfl ?_
  refine Go.icmp K (q := 17) (q' := 5) (by decide) (by decide) rfl d14_2 (fun (g0 : i < f) => ?_) (fun (g0 : ¬ i < f) => ?_)
  · skip
    refine Go.iconst K (q := 18) rfl (v := (1 : Int32)) (by decide) d14_17 ?_
    refine Go.goto K (q := 22) (by decide) (by decide) d14_18 ?_
    exact Go.retN K (by simp) d14_22 (by decide) (by decide) (⟨by rw [own_ok, if_pos g0]; rfl, rfl⟩)
  · skip
    refine Go.iloadN K (q := 6) rfl d14_5 rfl ?_
    refine Go.iloadN K (q := 7) rfl d14_6 rfl ?_
    refine Go.icmp K (q := 17) (q' := 10) (by decide) (by decide) rfl d14_7 (fun (g1 : ¬ i < t) => ?_) (fun (g1 : i < t) => ?_)
    · skip
      refine Go.iconst K (q := 18) rfl (v := (1 : Int32)) (by decide) d14_17 ?_
      refine Go.goto K (q := 22) (by decide) (by decide) d14_18 ?_
      exact Go.retN K (by simp) d14_22 (by decide) (by decide) (⟨by rw [own_ok, if_neg g0, if_neg g1]; rfl, rfl⟩)
    · skip
      refine Go.iloadN K (q := 11) rfl d14_10 rfl ?_
      refine Go.cS K (q := 14) rfl (y := (⟨"com/example/overplan/overplan/util/PlainNumberIsDigitsPinLaw", "digit", "(C)Z"⟩ : MethodName)) (c_dg l Z a0 hw n0 h Z0 x) (hw _ (List.mem_of_getElem? (i := 62) rfl)) (hw _ (List.mem_of_getElem? (i := 63) rfl)) (hw _ (List.mem_of_getElem? (i := 3) rfl)) (hw _ (List.mem_of_getElem? (i := 64) rfl)) (by decide) pd0 (argsL := [(.int x)]) (rest := []) rfl rfl rfl rfl (W := 0) (Nat.le_of_eq rfl) (by decide) (by decide) d14_11 (cells' := 0) (slots' := 0) rfl rfl (by decide) (by decide) ?_
      intro r2 h1 hQ
      obtain ⟨rfl, rfl⟩ := hQ
      show Go p l e _ s m _ below meth c _ _ _ _ h 0 0 (mkF m 14 #[.val (.int i), .val (.int f), .val (.int t), .val (.int x)] [(.int (own_dg x))])
      rcases own_dg01 x with ed | ed
      · skip
        refine Go.ifY K (q := 21) (by decide) (by decide) d14_14 (show (own_dg x) = (0 : Int32) from ed) ?_
        refine Go.iconst K (q := 22) rfl (v := (0 : Int32)) (by decide) d14_21 ?_
        exact Go.retN K (by simp) d14_22 (by decide) (by decide) (⟨by rw [own_ok, if_neg g0, if_pos g1, ed]; rfl, rfl⟩)
      · skip
        refine Go.ifN K (q := 17) rfl d14_14 (show ¬ (own_dg x) = (0 : Int32) from (by rw [ed]; decide)) ?_
        refine Go.iconst K (q := 18) rfl (v := (1 : Int32)) (by decide) d14_17 ?_
        refine Go.goto K (q := 22) (by decide) (by decide) d14_18 ?_
        exact Go.retN K (by simp) d14_22 (by decide) (by decide) (⟨by rw [own_ok, if_neg g0, if_pos g1, ed]; rfl, rfl⟩)
set_option maxRecDepth 65536 in
set_option maxHeartbeats 40000000 in
theorem c_cmp5 (l : Launch) (Z : State) (a0 : Array Value) (hw : ∀ d ∈ tables_1, d.before a0 Z = true) (n0 : Nat) (h : Heap) (Z0 : n0 ≤ h.size) (sc d : Addr) (kc kd : ClassId) (c0 c1 c2 c3 : Int32) (gd : n0 ≤ d) (hne : sc ≠ d) (V_s : Arv Z h sc kc .char (4 : Int32) [.int c0, .int c1, .int c2, .int c3] (.int (0 : Int32))) (V_d : Arv Z h d kd .byte (4 : Int32) (List.replicate 4 (.int (0 : Int32))) (.int (0 : Int32))) :
    Ctr l Z n0 (⟨"java/lang/StringUTF16", "compress", "([CI[BII)I"⟩ : MethodName) jdk_52_method_21_code 7 (some .int) [] ({ frames := 0, cells := 0, slots := 0, locals := 0 } : Room) #[(.ref sc), (.int (0 : Int32)), (.ref d), (.int (0 : Int32)), (.int (4 : Int32))] h (fun v h' => Keep h h' [d] ∧ ((v = some (.int 4) ∧ (¬ (255 : Int32) < c0 ∧ ¬ (255 : Int32) < c1 ∧ ¬ (255 : Int32) < c2 ∧ ¬ (255 : Int32) < c3) ∧ Arv Z h' d kd .byte (4 : Int32) [.int (own_b8 c0), .int (own_b8 c1), .int (own_b8 c2), .int (own_b8 c3)] (.int (0 : Int32))) ∨ (v = some (.int 0) ∧ (255 : Int32) < c0) ∨ (v = some (.int 1) ∧ (255 : Int32) < c1) ∨ (v = some (.int 2) ∧ (255 : Int32) < c2) ∨ (v = some (.int 3) ∧ (255 : Int32) < c3))) := by
  refine Ctr.body pn3 ?_
  intro p e s m below meth c K
  refine Go.entry (f' := (mkF m 0 #[.val (.ref sc), .val (.int (0 : Int32)), .val (.ref d), .val (.int (0 : Int32)), .val (.int (4 : Int32)), .unset, .unset] [])) (by first | (simp [entryFrame, mkF, argsToLocals, Value.category]; done) | rfl) ?_
  have KK := Keep.refl h [d]
  have V_d : Arv Z h d kd .byte (4 : Int32) [(.int (0 : Int32)), (.int (0 : Int32)), (.int (0 : Int32)), (.int (0 : Int32))] (.int (0 : Int32)) := V_d
  refine Go.iconst K (q := 1) rfl (v := (0 : Int32)) (by decide) d6_0 ?_
  refine Go.istore K (q := 3) rfl (L' := #[.val (.ref sc), .val (.int (0 : Int32)), .val (.ref d), .val (.int (0 : Int32)), .val (.int (4 : Int32)), .val (.int (0 : Int32)), .unset]) d6_1 rfl ?_
  refine Go.iload K (q := 5) rfl d6_3 rfl ?_
  refine Go.iload K (q := 7) rfl d6_5 rfl ?_
  refine Go.icmpN K (q := 10) rfl d6_7 (show (0 : Int32) < (4 : Int32) from (by decide)) ?_
  refine Go.aloadN K (q := 11) rfl d6_10 rfl rfl ?_
  refine Go.iloadN K (q := 12) rfl d6_11 rfl ?_
  refine Go.caload K (q := 13) rfl V_s d6_12 ⟨by decide, by decide⟩ (v := (.int c0)) rfl ?_
  refine Go.istore K (q := 15) rfl (L' := #[.val (.ref sc), .val (.int (0 : Int32)), .val (.ref d), .val (.int (0 : Int32)), .val (.int (4 : Int32)), .val (.int (0 : Int32)), .val (.int c0)]) d6_13 rfl ?_
  refine Go.iload K (q := 17) rfl d6_15 rfl ?_
  refine Go.sipush K (q := 20) rfl (v := (255 : Int32)) (by decide) d6_17 ?_
  refine Go.icmp K (q := 26) (q' := 23) (by decide) (by decide) rfl d6_20 (fun (q0 : ¬ (255 : Int32) < c0) => ?_) (fun (q0 : (255 : Int32) < c0) => ?_)
  · skip
    refine Go.aloadN K (q := 27) rfl d6_26 rfl rfl ?_
    refine Go.iloadN K (q := 28) rfl d6_27 rfl ?_
    refine Go.iload K (q := 30) rfl d6_28 rfl ?_
    refine Go.i2b K (q := 31) rfl d6_30 ?_
    refine Go.bastore K (q := 32) rfl V_d (i := 0) d6_31 ⟨by decide, by decide⟩ (by decide) (Nat.le_of_ble_eq_true rfl) gd ?_
    intro h1 W2 V_d
    have KK := KK.wr W2 (Or.inl List.mem_cons_self)
    have V_s := V_s.other W2 hne
    have V_d : Arv Z h1 d kd .byte (4 : Int32) [.int (own_b8 c0), .int (0 : Int32), .int (0 : Int32), .int (0 : Int32)] (.int (0 : Int32)) := V_d
    refine Go.iinc K (q := 35) rfl (L' := #[.val (.ref sc), .val (.int ((0 : Int32) + (1 : Int32))), .val (.ref d), .val (.int (0 : Int32)), .val (.int (4 : Int32)), .val (.int (0 : Int32)), .val (.int c0)]) (y := (1 : Int32)) (by decide) d6_32 rfl rfl ?_
    refine Go.iinc K (q := 38) rfl (L' := #[.val (.ref sc), .val (.int ((0 : Int32) + (1 : Int32))), .val (.ref d), .val (.int ((0 : Int32) + (1 : Int32))), .val (.int (4 : Int32)), .val (.int (0 : Int32)), .val (.int c0)]) (y := (1 : Int32)) (by decide) d6_35 rfl rfl ?_
    refine Go.iinc K (q := 41) rfl (L' := #[.val (.ref sc), .val (.int ((0 : Int32) + (1 : Int32))), .val (.ref d), .val (.int ((0 : Int32) + (1 : Int32))), .val (.int (4 : Int32)), .val (.int ((0 : Int32) + (1 : Int32))), .val (.int c0)]) (y := (1 : Int32)) (by decide) d6_38 rfl rfl ?_
    refine Go.goto K (q := 3) (by decide) (by decide) d6_41 ?_
    show Go p l e _ s m _ below meth c _ _ _ _ h1 0 0 (mkF m 3 #[.val (.ref sc), .val (.int (1 : Int32)), .val (.ref d), .val (.int (1 : Int32)), .val (.int (4 : Int32)), .val (.int (1 : Int32)), .val (.int c0)] [])
    refine Go.iload K (q := 5) rfl d6_3 rfl ?_
    refine Go.iload K (q := 7) rfl d6_5 rfl ?_
    refine Go.icmpN K (q := 10) rfl d6_7 (show (1 : Int32) < (4 : Int32) from (by decide)) ?_
    refine Go.aloadN K (q := 11) rfl d6_10 rfl rfl ?_
    refine Go.iloadN K (q := 12) rfl d6_11 rfl ?_
    refine Go.caload K (q := 13) rfl V_s d6_12 ⟨by decide, by decide⟩ (v := (.int c1)) rfl ?_
    refine Go.istore K (q := 15) rfl (L' := #[.val (.ref sc), .val (.int (1 : Int32)), .val (.ref d), .val (.int (1 : Int32)), .val (.int (4 : Int32)), .val (.int (1 : Int32)), .val (.int c1)]) d6_13 rfl ?_
    refine Go.iload K (q := 17) rfl d6_15 rfl ?_
    refine Go.sipush K (q := 20) rfl (v := (255 : Int32)) (by decide) d6_17 ?_
    refine Go.icmp K (q := 26) (q' := 23) (by decide) (by decide) rfl d6_20 (fun (q1 : ¬ (255 : Int32) < c1) => ?_) (fun (q1 : (255 : Int32) < c1) => ?_)
    · skip
      refine Go.aloadN K (q := 27) rfl d6_26 rfl rfl ?_
      refine Go.iloadN K (q := 28) rfl d6_27 rfl ?_
      refine Go.iload K (q := 30) rfl d6_28 rfl ?_
      refine Go.i2b K (q := 31) rfl d6_30 ?_
      refine Go.bastore K (q := 32) rfl V_d (i := 1) d6_31 ⟨by decide, by decide⟩ (by decide) (Nat.le_of_ble_eq_true rfl) gd ?_
      intro h3 W4 V_d
      have KK := KK.wr W4 (Or.inl List.mem_cons_self)
      have V_s := V_s.other W4 hne
      have V_d : Arv Z h3 d kd .byte (4 : Int32) [.int (own_b8 c0), .int (own_b8 c1), .int (0 : Int32), .int (0 : Int32)] (.int (0 : Int32)) := V_d
      refine Go.iinc K (q := 35) rfl (L' := #[.val (.ref sc), .val (.int ((1 : Int32) + (1 : Int32))), .val (.ref d), .val (.int (1 : Int32)), .val (.int (4 : Int32)), .val (.int (1 : Int32)), .val (.int c1)]) (y := (1 : Int32)) (by decide) d6_32 rfl rfl ?_
      refine Go.iinc K (q := 38) rfl (L' := #[.val (.ref sc), .val (.int ((1 : Int32) + (1 : Int32))), .val (.ref d), .val (.int ((1 : Int32) + (1 : Int32))), .val (.int (4 : Int32)), .val (.int (1 : Int32)), .val (.int c1)]) (y := (1 : Int32)) (by decide) d6_35 rfl rfl ?_
      refine Go.iinc K (q := 41) rfl (L' := #[.val (.ref sc), .val (.int ((1 : Int32) + (1 : Int32))), .val (.ref d), .val (.int ((1 : Int32) + (1 : Int32))), .val (.int (4 : Int32)), .val (.int ((1 : Int32) + (1 : Int32))), .val (.int c1)]) (y := (1 : Int32)) (by decide) d6_38 rfl rfl ?_
      refine Go.goto K (q := 3) (by decide) (by decide) d6_41 ?_
      show Go p l e _ s m _ below meth c _ _ _ _ h3 0 0 (mkF m 3 #[.val (.ref sc), .val (.int (2 : Int32)), .val (.ref d), .val (.int (2 : Int32)), .val (.int (4 : Int32)), .val (.int (2 : Int32)), .val (.int c1)] [])
      refine Go.iload K (q := 5) rfl d6_3 rfl ?_
      refine Go.iload K (q := 7) rfl d6_5 rfl ?_
      refine Go.icmpN K (q := 10) rfl d6_7 (show (2 : Int32) < (4 : Int32) from (by decide)) ?_
      refine Go.aloadN K (q := 11) rfl d6_10 rfl rfl ?_
      refine Go.iloadN K (q := 12) rfl d6_11 rfl ?_
      refine Go.caload K (q := 13) rfl V_s d6_12 ⟨by decide, by decide⟩ (v := (.int c2)) rfl ?_
      refine Go.istore K (q := 15) rfl (L' := #[.val (.ref sc), .val (.int (2 : Int32)), .val (.ref d), .val (.int (2 : Int32)), .val (.int (4 : Int32)), .val (.int (2 : Int32)), .val (.int c2)]) d6_13 rfl ?_
      refine Go.iload K (q := 17) rfl d6_15 rfl ?_
      refine Go.sipush K (q := 20) rfl (v := (255 : Int32)) (by decide) d6_17 ?_
      refine Go.icmp K (q := 26) (q' := 23) (by decide) (by decide) rfl d6_20 (fun (q2 : ¬ (255 : Int32) < c2) => ?_) (fun (q2 : (255 : Int32) < c2) => ?_)
      · skip
        refine Go.aloadN K (q := 27) rfl d6_26 rfl rfl ?_
        refine Go.iloadN K (q := 28) rfl d6_27 rfl ?_
        refine Go.iload K (q := 30) rfl d6_28 rfl ?_
        refine Go.i2b K (q := 31) rfl d6_30 ?_
        refine Go.bastore K (q := 32) rfl V_d (i := 2) d6_31 ⟨by decide, by decide⟩ (by decide) (Nat.le_of_ble_eq_true rfl) gd ?_
        intro h5 W6 V_d
        have KK := KK.wr W6 (Or.inl List.mem_cons_self)
        have V_s := V_s.other W6 hne
        have V_d : Arv Z h5 d kd .byte (4 : Int32) [.int (own_b8 c0), .int (own_b8 c1), .int (own_b8 c2), .int (0 : Int32)] (.int (0 : Int32)) := V_d
        refine Go.iinc K (q := 35) rfl (L' := #[.val (.ref sc), .val (.int ((2 : Int32) + (1 : Int32))), .val (.ref d), .val (.int (2 : Int32)), .val (.int (4 : Int32)), .val (.int (2 : Int32)), .val (.int c2)]) (y := (1 : Int32)) (by decide) d6_32 rfl rfl ?_
        refine Go.iinc K (q := 38) rfl (L' := #[.val (.ref sc), .val (.int ((2 : Int32) + (1 : Int32))), .val (.ref d), .val (.int ((2 : Int32) + (1 : Int32))), .val (.int (4 : Int32)), .val (.int (2 : Int32)), .val (.int c2)]) (y := (1 : Int32)) (by decide) d6_35 rfl rfl ?_
        refine Go.iinc K (q := 41) rfl (L' := #[.val (.ref sc), .val (.int ((2 : Int32) + (1 : Int32))), .val (.ref d), .val (.int ((2 : Int32) + (1 : Int32))), .val (.int (4 : Int32)), .val (.int ((2 : Int32) + (1 : Int32))), .val (.int c2)]) (y := (1 : Int32)) (by decide) d6_38 rfl rfl ?_
        refine Go.goto K (q := 3) (by decide) (by decide) d6_41 ?_
        show Go p l e _ s m _ below meth c _ _ _ _ h5 0 0 (mkF m 3 #[.val (.ref sc), .val (.int (3 : Int32)), .val (.ref d), .val (.int (3 : Int32)), .val (.int (4 : Int32)), .val (.int (3 : Int32)), .val (.int c2)] [])
        refine Go.iload K (q := 5) rfl d6_3 rfl ?_
        refine Go.iload K (q := 7) rfl d6_5 rfl ?_
        refine Go.icmpN K (q := 10) rfl d6_7 (show (3 : Int32) < (4 : Int32) from (by decide)) ?_
        refine Go.aloadN K (q := 11) rfl d6_10 rfl rfl ?_
        refine Go.iloadN K (q := 12) rfl d6_11 rfl ?_
        refine Go.caload K (q := 13) rfl V_s d6_12 ⟨by decide, by decide⟩ (v := (.int c3)) rfl ?_
        refine Go.istore K (q := 15) rfl (L' := #[.val (.ref sc), .val (.int (3 : Int32)), .val (.ref d), .val (.int (3 : Int32)), .val (.int (4 : Int32)), .val (.int (3 : Int32)), .val (.int c3)]) d6_13 rfl ?_
        refine Go.iload K (q := 17) rfl d6_15 rfl ?_
        refine Go.sipush K (q := 20) rfl (v := (255 : Int32)) (by decide) d6_17 ?_
        refine Go.icmp K (q := 26) (q' := 23) (by decide) (by decide) rfl d6_20 (fun (q3 : ¬ (255 : Int32) < c3) => ?_) (fun (q3 : (255 : Int32) < c3) => ?_)
        · skip
          refine Go.aloadN K (q := 27) rfl d6_26 rfl rfl ?_
          refine Go.iloadN K (q := 28) rfl d6_27 rfl ?_
          refine Go.iload K (q := 30) rfl d6_28 rfl ?_
          refine Go.i2b K (q := 31) rfl d6_30 ?_
          refine Go.bastore K (q := 32) rfl V_d (i := 3) d6_31 ⟨by decide, by decide⟩ (by decide) (Nat.le_of_ble_eq_true rfl) gd ?_
          intro h7 W8 V_d
          have KK := KK.wr W8 (Or.inl List.mem_cons_self)
          have V_s := V_s.other W8 hne
          have V_d : Arv Z h7 d kd .byte (4 : Int32) [.int (own_b8 c0), .int (own_b8 c1), .int (own_b8 c2), .int (own_b8 c3)] (.int (0 : Int32)) := V_d
          refine Go.iinc K (q := 35) rfl (L' := #[.val (.ref sc), .val (.int ((3 : Int32) + (1 : Int32))), .val (.ref d), .val (.int (3 : Int32)), .val (.int (4 : Int32)), .val (.int (3 : Int32)), .val (.int c3)]) (y := (1 : Int32)) (by decide) d6_32 rfl rfl ?_
          refine Go.iinc K (q := 38) rfl (L' := #[.val (.ref sc), .val (.int ((3 : Int32) + (1 : Int32))), .val (.ref d), .val (.int ((3 : Int32) + (1 : Int32))), .val (.int (4 : Int32)), .val (.int (3 : Int32)), .val (.int c3)]) (y := (1 : Int32)) (by decide) d6_35 rfl rfl ?_
          refine Go.iinc K (q := 41) rfl (L' := #[.val (.ref sc), .val (.int ((3 : Int32) + (1 : Int32))), .val (.ref d), .val (.int ((3 : Int32) + (1 : Int32))), .val (.int (4 : Int32)), .val (.int ((3 : Int32) + (1 : Int32))), .val (.int c3)]) (y := (1 : Int32)) (by decide) d6_38 rfl rfl ?_
          refine Go.goto K (q := 3) (by decide) (by decide) d6_41 ?_
          show Go p l e _ s m _ below meth c _ _ _ _ h7 0 0 (mkF m 3 #[.val (.ref sc), .val (.int (4 : Int32)), .val (.ref d), .val (.int (4 : Int32)), .val (.int (4 : Int32)), .val (.int (4 : Int32)), .val (.int c3)] [])
          refine Go.iload K (q := 5) rfl d6_3 rfl ?_
          refine Go.iload K (q := 7) rfl d6_5 rfl ?_
          refine Go.icmpY K (q := 44) (by decide) (by decide) d6_7 (show ¬ (4 : Int32) < (4 : Int32) from (by decide)) ?_
          refine Go.iload K (q := 46) rfl d6_44 rfl ?_
          exact Go.retI K d6_46 (by decide) (by decide) (⟨KK, Or.inl ⟨rfl, ⟨q0, q1, q2, q3⟩, V_d⟩⟩)
        · skip
          refine Go.iload K (q := 25) rfl d6_23 rfl ?_
          exact Go.retI K d6_25 (by decide) (by decide) (⟨KK, Or.inr (Or.inr (Or.inr (Or.inr (⟨rfl, q3⟩))))⟩)
      · skip
        refine Go.iload K (q := 25) rfl d6_23 rfl ?_
        exact Go.retI K d6_25 (by decide) (by decide) (⟨KK, Or.inr (Or.inr (Or.inr (Or.inl ⟨rfl, q2⟩)))⟩)
    · skip
      refine Go.iload K (q := 25) rfl d6_23 rfl ?_
      exact Go.retI K d6_25 (by decide) (by decide) (⟨KK, Or.inr (Or.inr (Or.inl ⟨rfl, q1⟩))⟩)
  · skip
    refine Go.iload K (q := 25) rfl d6_23 rfl ?_
    exact Go.retI K d6_25 (by decide) (by decide) (⟨KK, Or.inr (Or.inl ⟨rfl, q0⟩)⟩)
set_option maxRecDepth 65536 in
set_option maxHeartbeats 40000000 in
theorem c_nbl (l : Launch) (Z : State) (a0 : Array Value) (hw : ∀ d ∈ tables_1, d.before a0 Z = true) (n0 : Nat) (h : Heap) (Z0 : n0 ≤ h.size)  :
    Ctr l Z n0 (⟨"java/lang/StringUTF16", "newBytesLength", "(I)I"⟩ : MethodName) jdk_52_method_3_code 1 (some .int) [] ({ frames := 0, cells := 0, slots := 0, locals := 0 } : Room) #[(.int (4 : Int32))] h (fun v h' => v = some (.int 8) ∧ h = h') := by
  refine Ctr.body pn4 ?_
  intro p e s m below meth c K
  refine Go.entry (f' := (mkF m 0 #[.val (.int (4 : Int32))] [])) (by first | (simp [entryFrame, mkF, argsToLocals, Value.category]; done) | rfl) ?_
  refine Go.iloadN K (q := 1) rfl d11_0 rfl ?_
  refine Go.ifY K (q := 12) (by decide) (by decide) d11_1 (show ¬ (4 : Int32) < (0 : Int32) from (by decide)) ?_
  refine Go.iloadN K (q := 13) rfl d11_12 rfl ?_
  refine Go.ldcInt K (q := 15) rfl (v := (1073741823 : Int32)) (hw _ (List.mem_of_getElem? (i := 49) rfl)) d11_13 ?_
  refine Go.icmpY K (q := 55) (by decide) (by decide) d11_15 (show (4 : Int32) < (1073741823 : Int32) from (by decide)) ?_
  refine Go.iloadN K (q := 56) rfl d11_55 rfl ?_
  refine Go.iconst K (q := 57) rfl (v := (1 : Int32)) (by decide) d11_56 ?_
  refine Go.ishl K (q := 58) rfl d11_57 ?_
  exact Go.retI K d11_58 (by decide) (by decide) (⟨rfl, rfl⟩)
set_option maxRecDepth 65536 in
set_option maxHeartbeats 40000000 in
theorem c_nbf (l : Launch) (Z : State) (a0 : Array Value) (hw : ∀ d ∈ tables_1, d.before a0 Z = true) (n0 : Nat) (h : Heap) (Z0 : n0 ≤ h.size)  :
    Ctr l Z n0 (⟨"java/lang/StringUTF16", "newBytesFor", "(I)[B"⟩ : MethodName) jdk_52_method_2_code 1 (some (.array .byte)) [] ({ frames := 1, cells := 1, slots := 8, locals := 12 } : Room) #[(.int (4 : Int32))] h (fun v h' => ∃ (t : Addr) (k : ClassId), v = some (.ref t) ∧ Ext h h' ∧ t = h.size ∧ Arv Z h' t k .byte (8 : Int32) [.int (0 : Int32), .int (0 : Int32), .int (0 : Int32), .int (0 : Int32), .int (0 : Int32), .int (0 : Int32), .int (0 : Int32), .int (0 : Int32)] (.int (0 : Int32))) := by
  refine Ctr.body pn5 ?_
  intro p e s m below meth c K
  refine Go.entry (f' := (mkF m 0 #[.val (.int (4 : Int32))] [])) (by first | (simp [entryFrame, mkF, argsToLocals, Value.category]; done) | rfl) ?_
  have E0 := Ext.refl h
  refine Go.iloadN K (q := 1) rfl d10_0 rfl ?_
  refine Go.cS K (q := 4) rfl (y := (⟨"java/lang/StringUTF16", "newBytesLength", "(I)I"⟩ : MethodName)) (c_nbl l Z a0 hw n0 h Z0) (hw _ (List.mem_of_getElem? (i := 46) rfl)) (hw _ (List.mem_of_getElem? (i := 47) rfl)) (hw _ (List.mem_of_getElem? (i := 23) rfl)) (hw _ (List.mem_of_getElem? (i := 48) rfl)) (by decide) pd1 (argsL := [(.int (4 : Int32))]) (rest := []) rfl rfl rfl rfl (W := 0) (Nat.le_of_eq rfl) (by decide) (by decide) d10_1 (cells' := 0) (slots' := 0) rfl rfl (by decide) (by decide) ?_
  intro r2 h1 hQ
  obtain ⟨rfl, rfl⟩ := hQ
  show Go p l e _ s m _ below meth c _ _ _ _ h 0 0 (mkF m 4 #[.val (.int (4 : Int32))] [(.int (8 : Int32))])
  refine Go.newarr K (q := 6) rfl (hw _ (List.mem_of_getElem? (i := 25) rfl)) d10_4 (by decide) (cap := 8) (by decide) (by decide) (cells' := 1) (slots' := 8) rfl rfl (by decide) (by decide) ?_
  intro h3 t k_t g_t N_t V_t
  have V_t : Arv Z h3 t k_t .byte (8 : Int32) [(.int (0 : Int32)), (.int (0 : Int32)), (.int (0 : Int32)), (.int (0 : Int32)), (.int (0 : Int32)), (.int (0 : Int32)), (.int (0 : Int32)), (.int (0 : Int32))] (.int (0 : Int32)) := V_t
  have ge_E0_t : h.size ≤ t := Nat.le_trans E0.1 (Nat.le_of_eq g_t.symm)
  have E0 := Ext.trans E0 N_t
  exact Go.retA K rfl rfl d10_6 (by decide) (by decide) (⟨t, k_t, rfl, E0, g_t, V_t⟩)
set_option maxRecDepth 65536 in
set_option maxHeartbeats 40000000 in
theorem c_put0 (l : Launch) (Z : State) (a0 : Array Value) (hw : ∀ d ∈ tables_1, d.before a0 Z = true) (n0 : Nat) (h : Heap) (Z0 : n0 ≤ h.size) (t : Addr) (k : ClassId) (x x0 x1 x2 x3 x4 x5 x6 x7 : Int32) (gt : n0 ≤ t) (V : Arv Z h t k .byte (8 : Int32) [.int x0, .int x1, .int x2, .int x3, .int x4, .int x5, .int x6, .int x7] (.int (0 : Int32))) (SD : Sta Z h "java/lang/StringUTF16" "$assertionsDisabled" "Z" (.int 1)) (SH : Sta Z h "java/lang/StringUTF16" "HI_BYTE_SHIFT" "I" (.int 0)) (SL : Sta Z h "java/lang/StringUTF16" "LO_BYTE_SHIFT" "I" (.int 8)) :
    Ctr l Z n0 (⟨"java/lang/StringUTF16", "putChar", "([BII)V"⟩ : MethodName) jdk_52_method_4_code 3 none [] ({ frames := 0, cells := 0, slots := 0, locals := 0 } : Room) #[(.ref t), (.int (0 : Int32)), (.int x)] h (fun v h' => v = none ∧ Keep h h' [t] ∧ Arv Z h' t k .byte (8 : Int32) [.int (own_lo x), .int (own_hi x), .int x2, .int x3, .int x4, .int x5, .int x6, .int x7] (.int (0 : Int32))) := by
  refine Ctr.body pn6 ?_
  intro p e s m below meth c K
  refine Go.entry (f' := (mkF m 0 #[.val (.ref t), .val (.int (0 : Int32)), .val (.int x)] [])) (by first | (simp [entryFrame, mkF, argsToLocals, Value.category]; done) | rfl) ?_
  have KK := Keep.refl h [t]
  refine Go.getS K (q := 3) rfl (hw _ (List.mem_of_getElem? (i := 53) rfl)) Via.refl (SD) d12_0 ?_
  refine Go.ifY K (q := 28) (by decide) (by decide) d12_3 (show ¬ (1 : Int32) = (0 : Int32) from (by decide)) ?_
  refine Go.iloadN K (q := 29) rfl d12_28 rfl ?_
  refine Go.iconst K (q := 30) rfl (v := (1 : Int32)) (by decide) d12_29 ?_
  refine Go.ishl K (q := 31) rfl d12_30 ?_
  refine Go.istoreN K (q := 32) rfl (L' := #[.val (.ref t), .val (.int ((0 : Int32) <<< ((1 : Int32) &&& 31))), .val (.int x)]) d12_31 rfl ?_
  show Go p l e _ s m _ below meth c _ _ _ _ h 0 0 (mkF m 32 #[.val (.ref t), .val (.int (0 : Int32)), .val (.int x)] [])
  refine Go.aloadN K (q := 33) rfl d12_32 rfl rfl ?_
  refine Go.iloadN K (q := 34) rfl d12_33 rfl ?_
  refine Go.iinc K (q := 37) rfl (L' := #[.val (.ref t), .val (.int ((0 : Int32) + (1 : Int32))), .val (.int x)]) (y := (1 : Int32)) (by decide) d12_34 rfl rfl ?_
  refine Go.iloadN K (q := 38) rfl d12_37 rfl ?_
  refine Go.getS K (q := 41) rfl (hw _ (List.mem_of_getElem? (i := 54) rfl)) Via.refl (SH) d12_38 ?_
  refine Go.ishr K (q := 42) rfl d12_41 ?_
  refine Go.i2b K (q := 43) rfl d12_42 ?_
  refine Go.bastore K (q := 44) rfl V (i := 0) d12_43 ⟨by decide, by decide⟩ (by decide) (Nat.le_of_ble_eq_true rfl) gt ?_
  intro h1 W2 V
  have KK := KK.wr W2 (Or.inl List.mem_cons_self)
  have V : Arv Z h1 t k .byte (8 : Int32) [.int (own_lo x), .int x1, .int x2, .int x3, .int x4, .int x5, .int x6, .int x7] (.int (0 : Int32)) := V
  have SD := SD.wr W2
  have SH := SH.wr W2
  have SL := SL.wr W2
  refine Go.aloadN K (q := 45) rfl d12_44 rfl rfl ?_
  refine Go.iloadN K (q := 46) rfl d12_45 rfl ?_
  refine Go.iloadN K (q := 47) rfl d12_46 rfl ?_
  refine Go.getS K (q := 50) rfl (hw _ (List.mem_of_getElem? (i := 55) rfl)) Via.refl (SL) d12_47 ?_
  refine Go.ishr K (q := 51) rfl d12_50 ?_
  refine Go.i2b K (q := 52) rfl d12_51 ?_
  refine Go.bastore K (q := 53) rfl V (i := 1) d12_52 ⟨by decide, by decide⟩ (by decide) (Nat.le_of_ble_eq_true rfl) gt ?_
  intro h3 W4 V
  have KK := KK.wr W4 (Or.inl List.mem_cons_self)
  have V : Arv Z h3 t k .byte (8 : Int32) [.int (own_lo x), .int (own_hi x), .int x2, .int x3, .int x4, .int x5, .int x6, .int x7] (.int (0 : Int32)) := V
  have SD := SD.wr W4
  have SH := SH.wr W4
  have SL := SL.wr W4
  exact Go.retV K d12_53 (by decide) (by decide) (⟨rfl, KK, V⟩)
set_option maxRecDepth 65536 in
set_option maxHeartbeats 40000000 in
theorem c_put1 (l : Launch) (Z : State) (a0 : Array Value) (hw : ∀ d ∈ tables_1, d.before a0 Z = true) (n0 : Nat) (h : Heap) (Z0 : n0 ≤ h.size) (t : Addr) (k : ClassId) (x x0 x1 x2 x3 x4 x5 x6 x7 : Int32) (gt : n0 ≤ t) (V : Arv Z h t k .byte (8 : Int32) [.int x0, .int x1, .int x2, .int x3, .int x4, .int x5, .int x6, .int x7] (.int (0 : Int32))) (SD : Sta Z h "java/lang/StringUTF16" "$assertionsDisabled" "Z" (.int 1)) (SH : Sta Z h "java/lang/StringUTF16" "HI_BYTE_SHIFT" "I" (.int 0)) (SL : Sta Z h "java/lang/StringUTF16" "LO_BYTE_SHIFT" "I" (.int 8)) :
    Ctr l Z n0 (⟨"java/lang/StringUTF16", "putChar", "([BII)V"⟩ : MethodName) jdk_52_method_4_code 3 none [] ({ frames := 0, cells := 0, slots := 0, locals := 0 } : Room) #[(.ref t), (.int (1 : Int32)), (.int x)] h (fun v h' => v = none ∧ Keep h h' [t] ∧ Arv Z h' t k .byte (8 : Int32) [.int x0, .int x1, .int (own_lo x), .int (own_hi x), .int x4, .int x5, .int x6, .int x7] (.int (0 : Int32))) := by
  refine Ctr.body pn6 ?_
  intro p e s m below meth c K
  refine Go.entry (f' := (mkF m 0 #[.val (.ref t), .val (.int (1 : Int32)), .val (.int x)] [])) (by first | (simp [entryFrame, mkF, argsToLocals, Value.category]; done) | rfl) ?_
  have KK := Keep.refl h [t]
  refine Go.getS K (q := 3) rfl (hw _ (List.mem_of_getElem? (i := 53) rfl)) Via.refl (SD) d12_0 ?_
  refine Go.ifY K (q := 28) (by decide) (by decide) d12_3 (show ¬ (1 : Int32) = (0 : Int32) from (by decide)) ?_
  refine Go.iloadN K (q := 29) rfl d12_28 rfl ?_
  refine Go.iconst K (q := 30) rfl (v := (1 : Int32)) (by decide) d12_29 ?_
  refine Go.ishl K (q := 31) rfl d12_30 ?_
  refine Go.istoreN K (q := 32) rfl (L' := #[.val (.ref t), .val (.int ((1 : Int32) <<< ((1 : Int32) &&& 31))), .val (.int x)]) d12_31 rfl ?_
  show Go p l e _ s m _ below meth c _ _ _ _ h 0 0 (mkF m 32 #[.val (.ref t), .val (.int (2 : Int32)), .val (.int x)] [])
  refine Go.aloadN K (q := 33) rfl d12_32 rfl rfl ?_
  refine Go.iloadN K (q := 34) rfl d12_33 rfl ?_
  refine Go.iinc K (q := 37) rfl (L' := #[.val (.ref t), .val (.int ((2 : Int32) + (1 : Int32))), .val (.int x)]) (y := (1 : Int32)) (by decide) d12_34 rfl rfl ?_
  refine Go.iloadN K (q := 38) rfl d12_37 rfl ?_
  refine Go.getS K (q := 41) rfl (hw _ (List.mem_of_getElem? (i := 54) rfl)) Via.refl (SH) d12_38 ?_
  refine Go.ishr K (q := 42) rfl d12_41 ?_
  refine Go.i2b K (q := 43) rfl d12_42 ?_
  refine Go.bastore K (q := 44) rfl V (i := 2) d12_43 ⟨by decide, by decide⟩ (by decide) (Nat.le_of_ble_eq_true rfl) gt ?_
  intro h1 W2 V
  have KK := KK.wr W2 (Or.inl List.mem_cons_self)
  have V : Arv Z h1 t k .byte (8 : Int32) [.int x0, .int x1, .int (own_lo x), .int x3, .int x4, .int x5, .int x6, .int x7] (.int (0 : Int32)) := V
  have SD := SD.wr W2
  have SH := SH.wr W2
  have SL := SL.wr W2
  refine Go.aloadN K (q := 45) rfl d12_44 rfl rfl ?_
  refine Go.iloadN K (q := 46) rfl d12_45 rfl ?_
  refine Go.iloadN K (q := 47) rfl d12_46 rfl ?_
  refine Go.getS K (q := 50) rfl (hw _ (List.mem_of_getElem? (i := 55) rfl)) Via.refl (SL) d12_47 ?_
  refine Go.ishr K (q := 51) rfl d12_50 ?_
  refine Go.i2b K (q := 52) rfl d12_51 ?_
  refine Go.bastore K (q := 53) rfl V (i := 3) d12_52 ⟨by decide, by decide⟩ (by decide) (Nat.le_of_ble_eq_true rfl) gt ?_
  intro h3 W4 V
  have KK := KK.wr W4 (Or.inl List.mem_cons_self)
  have V : Arv Z h3 t k .byte (8 : Int32) [.int x0, .int x1, .int (own_lo x), .int (own_hi x), .int x4, .int x5, .int x6, .int x7] (.int (0 : Int32)) := V
  have SD := SD.wr W4
  have SH := SH.wr W4
  have SL := SL.wr W4
  exact Go.retV K d12_53 (by decide) (by decide) (⟨rfl, KK, V⟩)
set_option maxRecDepth 65536 in
set_option maxHeartbeats 40000000 in
theorem c_put2 (l : Launch) (Z : State) (a0 : Array Value) (hw : ∀ d ∈ tables_1, d.before a0 Z = true) (n0 : Nat) (h : Heap) (Z0 : n0 ≤ h.size) (t : Addr) (k : ClassId) (x x0 x1 x2 x3 x4 x5 x6 x7 : Int32) (gt : n0 ≤ t) (V : Arv Z h t k .byte (8 : Int32) [.int x0, .int x1, .int x2, .int x3, .int x4, .int x5, .int x6, .int x7] (.int (0 : Int32))) (SD : Sta Z h "java/lang/StringUTF16" "$assertionsDisabled" "Z" (.int 1)) (SH : Sta Z h "java/lang/StringUTF16" "HI_BYTE_SHIFT" "I" (.int 0)) (SL : Sta Z h "java/lang/StringUTF16" "LO_BYTE_SHIFT" "I" (.int 8)) :
    Ctr l Z n0 (⟨"java/lang/StringUTF16", "putChar", "([BII)V"⟩ : MethodName) jdk_52_method_4_code 3 none [] ({ frames := 0, cells := 0, slots := 0, locals := 0 } : Room) #[(.ref t), (.int (2 : Int32)), (.int x)] h (fun v h' => v = none ∧ Keep h h' [t] ∧ Arv Z h' t k .byte (8 : Int32) [.int x0, .int x1, .int x2, .int x3, .int (own_lo x), .int (own_hi x), .int x6, .int x7] (.int (0 : Int32))) := by
  refine Ctr.body pn6 ?_
  intro p e s m below meth c K
  refine Go.entry (f' := (mkF m 0 #[.val (.ref t), .val (.int (2 : Int32)), .val (.int x)] [])) (by first | (simp [entryFrame, mkF, argsToLocals, Value.category]; done) | rfl) ?_
  have KK := Keep.refl h [t]
  refine Go.getS K (q := 3) rfl (hw _ (List.mem_of_getElem? (i := 53) rfl)) Via.refl (SD) d12_0 ?_
  refine Go.ifY K (q := 28) (by decide) (by decide) d12_3 (show ¬ (1 : Int32) = (0 : Int32) from (by decide)) ?_
  refine Go.iloadN K (q := 29) rfl d12_28 rfl ?_
  refine Go.iconst K (q := 30) rfl (v := (1 : Int32)) (by decide) d12_29 ?_
  refine Go.ishl K (q := 31) rfl d12_30 ?_
  refine Go.istoreN K (q := 32) rfl (L' := #[.val (.ref t), .val (.int ((2 : Int32) <<< ((1 : Int32) &&& 31))), .val (.int x)]) d12_31 rfl ?_
  show Go p l e _ s m _ below meth c _ _ _ _ h 0 0 (mkF m 32 #[.val (.ref t), .val (.int (4 : Int32)), .val (.int x)] [])
  refine Go.aloadN K (q := 33) rfl d12_32 rfl rfl ?_
  refine Go.iloadN K (q := 34) rfl d12_33 rfl ?_
  refine Go.iinc K (q := 37) rfl (L' := #[.val (.ref t), .val (.int ((4 : Int32) + (1 : Int32))), .val (.int x)]) (y := (1 : Int32)) (by decide) d12_34 rfl rfl ?_
  refine Go.iloadN K (q := 38) rfl d12_37 rfl ?_
  refine Go.getS K (q := 41) rfl (hw _ (List.mem_of_getElem? (i := 54) rfl)) Via.refl (SH) d12_38 ?_
  refine Go.ishr K (q := 42) rfl d12_41 ?_
  refine Go.i2b K (q := 43) rfl d12_42 ?_
  refine Go.bastore K (q := 44) rfl V (i := 4) d12_43 ⟨by decide, by decide⟩ (by decide) (Nat.le_of_ble_eq_true rfl) gt ?_
  intro h1 W2 V
  have KK := KK.wr W2 (Or.inl List.mem_cons_self)
  have V : Arv Z h1 t k .byte (8 : Int32) [.int x0, .int x1, .int x2, .int x3, .int (own_lo x), .int x5, .int x6, .int x7] (.int (0 : Int32)) := V
  have SD := SD.wr W2
  have SH := SH.wr W2
  have SL := SL.wr W2
  refine Go.aloadN K (q := 45) rfl d12_44 rfl rfl ?_
  refine Go.iloadN K (q := 46) rfl d12_45 rfl ?_
  refine Go.iloadN K (q := 47) rfl d12_46 rfl ?_
  refine Go.getS K (q := 50) rfl (hw _ (List.mem_of_getElem? (i := 55) rfl)) Via.refl (SL) d12_47 ?_
  refine Go.ishr K (q := 51) rfl d12_50 ?_
  refine Go.i2b K (q := 52) rfl d12_51 ?_
  refine Go.bastore K (q := 53) rfl V (i := 5) d12_52 ⟨by decide, by decide⟩ (by decide) (Nat.le_of_ble_eq_true rfl) gt ?_
  intro h3 W4 V
  have KK := KK.wr W4 (Or.inl List.mem_cons_self)
  have V : Arv Z h3 t k .byte (8 : Int32) [.int x0, .int x1, .int x2, .int x3, .int (own_lo x), .int (own_hi x), .int x6, .int x7] (.int (0 : Int32)) := V
  have SD := SD.wr W4
  have SH := SH.wr W4
  have SL := SL.wr W4
  exact Go.retV K d12_53 (by decide) (by decide) (⟨rfl, KK, V⟩)
set_option maxRecDepth 65536 in
set_option maxHeartbeats 40000000 in
theorem c_put3 (l : Launch) (Z : State) (a0 : Array Value) (hw : ∀ d ∈ tables_1, d.before a0 Z = true) (n0 : Nat) (h : Heap) (Z0 : n0 ≤ h.size) (t : Addr) (k : ClassId) (x x0 x1 x2 x3 x4 x5 x6 x7 : Int32) (gt : n0 ≤ t) (V : Arv Z h t k .byte (8 : Int32) [.int x0, .int x1, .int x2, .int x3, .int x4, .int x5, .int x6, .int x7] (.int (0 : Int32))) (SD : Sta Z h "java/lang/StringUTF16" "$assertionsDisabled" "Z" (.int 1)) (SH : Sta Z h "java/lang/StringUTF16" "HI_BYTE_SHIFT" "I" (.int 0)) (SL : Sta Z h "java/lang/StringUTF16" "LO_BYTE_SHIFT" "I" (.int 8)) :
    Ctr l Z n0 (⟨"java/lang/StringUTF16", "putChar", "([BII)V"⟩ : MethodName) jdk_52_method_4_code 3 none [] ({ frames := 0, cells := 0, slots := 0, locals := 0 } : Room) #[(.ref t), (.int (3 : Int32)), (.int x)] h (fun v h' => v = none ∧ Keep h h' [t] ∧ Arv Z h' t k .byte (8 : Int32) [.int x0, .int x1, .int x2, .int x3, .int x4, .int x5, .int (own_lo x), .int (own_hi x)] (.int (0 : Int32))) := by
  refine Ctr.body pn6 ?_
  intro p e s m below meth c K
  refine Go.entry (f' := (mkF m 0 #[.val (.ref t), .val (.int (3 : Int32)), .val (.int x)] [])) (by first | (simp [entryFrame, mkF, argsToLocals, Value.category]; done) | rfl) ?_
  have KK := Keep.refl h [t]
  refine Go.getS K (q := 3) rfl (hw _ (List.mem_of_getElem? (i := 53) rfl)) Via.refl (SD) d12_0 ?_
  refine Go.ifY K (q := 28) (by decide) (by decide) d12_3 (show ¬ (1 : Int32) = (0 : Int32) from (by decide)) ?_
  refine Go.iloadN K (q := 29) rfl d12_28 rfl ?_
  refine Go.iconst K (q := 30) rfl (v := (1 : Int32)) (by decide) d12_29 ?_
  refine Go.ishl K (q := 31) rfl d12_30 ?_
  refine Go.istoreN K (q := 32) rfl (L' := #[.val (.ref t), .val (.int ((3 : Int32) <<< ((1 : Int32) &&& 31))), .val (.int x)]) d12_31 rfl ?_
  show Go p l e _ s m _ below meth c _ _ _ _ h 0 0 (mkF m 32 #[.val (.ref t), .val (.int (6 : Int32)), .val (.int x)] [])
  refine Go.aloadN K (q := 33) rfl d12_32 rfl rfl ?_
  refine Go.iloadN K (q := 34) rfl d12_33 rfl ?_
  refine Go.iinc K (q := 37) rfl (L' := #[.val (.ref t), .val (.int ((6 : Int32) + (1 : Int32))), .val (.int x)]) (y := (1 : Int32)) (by decide) d12_34 rfl rfl ?_
  refine Go.iloadN K (q := 38) rfl d12_37 rfl ?_
  refine Go.getS K (q := 41) rfl (hw _ (List.mem_of_getElem? (i := 54) rfl)) Via.refl (SH) d12_38 ?_
  refine Go.ishr K (q := 42) rfl d12_41 ?_
  refine Go.i2b K (q := 43) rfl d12_42 ?_
  refine Go.bastore K (q := 44) rfl V (i := 6) d12_43 ⟨by decide, by decide⟩ (by decide) (Nat.le_of_ble_eq_true rfl) gt ?_
  intro h1 W2 V
  have KK := KK.wr W2 (Or.inl List.mem_cons_self)
  have V : Arv Z h1 t k .byte (8 : Int32) [.int x0, .int x1, .int x2, .int x3, .int x4, .int x5, .int (own_lo x), .int x7] (.int (0 : Int32)) := V
  have SD := SD.wr W2
  have SH := SH.wr W2
  have SL := SL.wr W2
  refine Go.aloadN K (q := 45) rfl d12_44 rfl rfl ?_
  refine Go.iloadN K (q := 46) rfl d12_45 rfl ?_
  refine Go.iloadN K (q := 47) rfl d12_46 rfl ?_
  refine Go.getS K (q := 50) rfl (hw _ (List.mem_of_getElem? (i := 55) rfl)) Via.refl (SL) d12_47 ?_
  refine Go.ishr K (q := 51) rfl d12_50 ?_
  refine Go.i2b K (q := 52) rfl d12_51 ?_
  refine Go.bastore K (q := 53) rfl V (i := 7) d12_52 ⟨by decide, by decide⟩ (by decide) (Nat.le_of_ble_eq_true rfl) gt ?_
  intro h3 W4 V
  have KK := KK.wr W4 (Or.inl List.mem_cons_self)
  have V : Arv Z h3 t k .byte (8 : Int32) [.int x0, .int x1, .int x2, .int x3, .int x4, .int x5, .int (own_lo x), .int (own_hi x)] (.int (0 : Int32)) := V
  have SD := SD.wr W4
  have SH := SH.wr W4
  have SL := SL.wr W4
  exact Go.retV K d12_53 (by decide) (by decide) (⟨rfl, KK, V⟩)
set_option maxRecDepth 65536 in
set_option maxHeartbeats 40000000 in
theorem c_get0 (l : Launch) (Z : State) (a0 : Array Value) (hw : ∀ d ∈ tables_1, d.before a0 Z = true) (n0 : Nat) (h : Heap) (Z0 : n0 ≤ h.size) (t : Addr) (k : ClassId) (c0 c1 c2 c3 : Int32) (r0 : ¬ c0 < 0 ∧ ¬ (65535 : Int32) < c0) (r1 : ¬ c1 < 0 ∧ ¬ (65535 : Int32) < c1) (r2 : ¬ c2 < 0 ∧ ¬ (65535 : Int32) < c2) (r3 : ¬ c3 < 0 ∧ ¬ (65535 : Int32) < c3)  (V : Arv Z h t k .byte (8 : Int32) [.int (own_lo c0), .int (own_hi c0), .int (own_lo c1), .int (own_hi c1), .int (own_lo c2), .int (own_hi c2), .int (own_lo c3), .int (own_hi c3)] (.int (0 : Int32))) (SD : Sta Z h "java/lang/StringUTF16" "$assertionsDisabled" "Z" (.int 1)) (SH : Sta Z h "java/lang/StringUTF16" "HI_BYTE_SHIFT" "I" (.int 0)) (SL : Sta Z h "java/lang/StringUTF16" "LO_BYTE_SHIFT" "I" (.int 8)) :
    Ctr l Z n0 (⟨"java/lang/StringUTF16", "getChar", "([BI)C"⟩ : MethodName) jdk_52_method_5_code 2 (some .char) [] ({ frames := 0, cells := 0, slots := 0, locals := 0 } : Room) #[(.ref t), (.int (0 : Int32))] h (fun v h' => v = some (.int c0) ∧ h = h') := by
  refine Ctr.body pn7 ?_
  intro p e s m below meth c K
  refine Go.entry (f' := (mkF m 0 #[.val (.ref t), .val (.int (0 : Int32))] [])) (by first | (simp [entryFrame, mkF, argsToLocals, Value.category]; done) | rfl) ?_
  refine Go.getS K (q := 3) rfl (hw _ (List.mem_of_getElem? (i := 53) rfl)) Via.refl (SD) d13_0 ?_
  refine Go.ifY K (q := 28) (by decide) (by decide) d13_3 (show ¬ (1 : Int32) = (0 : Int32) from (by decide)) ?_
  refine Go.iloadN K (q := 29) rfl d13_28 rfl ?_
  refine Go.iconst K (q := 30) rfl (v := (1 : Int32)) (by decide) d13_29 ?_
  refine Go.ishl K (q := 31) rfl d13_30 ?_
  refine Go.istoreN K (q := 32) rfl (L' := #[.val (.ref t), .val (.int ((0 : Int32) <<< ((1 : Int32) &&& 31)))]) d13_31 rfl ?_
  show Go p l e _ s m _ below meth c _ _ _ _ h 0 0 (mkF m 32 #[.val (.ref t), .val (.int (0 : Int32))] [])
  refine Go.aloadN K (q := 33) rfl d13_32 rfl rfl ?_
  refine Go.iloadN K (q := 34) rfl d13_33 rfl ?_
  refine Go.iinc K (q := 37) rfl (L' := #[.val (.ref t), .val (.int ((0 : Int32) + (1 : Int32)))]) (y := (1 : Int32)) (by decide) d13_34 rfl rfl ?_
  refine Go.baload K (q := 38) rfl V d13_37 ⟨by decide, by decide⟩ (v := (.int (own_lo c0))) rfl ?_
  refine Go.sipush K (q := 41) rfl (v := (255 : Int32)) (by decide) d13_38 ?_
  refine Go.iand K (q := 42) rfl d13_41 ?_
  refine Go.getS K (q := 45) rfl (hw _ (List.mem_of_getElem? (i := 54) rfl)) Via.refl (SH) d13_42 ?_
  refine Go.ishl K (q := 46) rfl d13_45 ?_
  refine Go.aloadN K (q := 47) rfl d13_46 rfl rfl ?_
  refine Go.iloadN K (q := 48) rfl d13_47 rfl ?_
  refine Go.baload K (q := 49) rfl V d13_48 ⟨by decide, by decide⟩ (v := (.int (own_hi c0))) rfl ?_
  refine Go.sipush K (q := 52) rfl (v := (255 : Int32)) (by decide) d13_49 ?_
  refine Go.iand K (q := 53) rfl d13_52 ?_
  refine Go.getS K (q := 56) rfl (hw _ (List.mem_of_getElem? (i := 55) rfl)) Via.refl (SL) d13_53 ?_
  refine Go.ishl K (q := 57) rfl d13_56 ?_
  refine Go.ior K (q := 58) rfl d13_57 ?_
  refine Go.i2c K (q := 59) rfl d13_58 ?_
  exact Go.retN K (by simp) d13_59 (by decide) (by decide) (⟨congrArg (fun z => some (Value.int z)) (own_pair r0), rfl⟩)
set_option maxRecDepth 65536 in
set_option maxHeartbeats 40000000 in
theorem c_get1 (l : Launch) (Z : State) (a0 : Array Value) (hw : ∀ d ∈ tables_1, d.before a0 Z = true) (n0 : Nat) (h : Heap) (Z0 : n0 ≤ h.size) (t : Addr) (k : ClassId) (c0 c1 c2 c3 : Int32) (r0 : ¬ c0 < 0 ∧ ¬ (65535 : Int32) < c0) (r1 : ¬ c1 < 0 ∧ ¬ (65535 : Int32) < c1) (r2 : ¬ c2 < 0 ∧ ¬ (65535 : Int32) < c2) (r3 : ¬ c3 < 0 ∧ ¬ (65535 : Int32) < c3)  (V : Arv Z h t k .byte (8 : Int32) [.int (own_lo c0), .int (own_hi c0), .int (own_lo c1), .int (own_hi c1), .int (own_lo c2), .int (own_hi c2), .int (own_lo c3), .int (own_hi c3)] (.int (0 : Int32))) (SD : Sta Z h "java/lang/StringUTF16" "$assertionsDisabled" "Z" (.int 1)) (SH : Sta Z h "java/lang/StringUTF16" "HI_BYTE_SHIFT" "I" (.int 0)) (SL : Sta Z h "java/lang/StringUTF16" "LO_BYTE_SHIFT" "I" (.int 8)) :
    Ctr l Z n0 (⟨"java/lang/StringUTF16", "getChar", "([BI)C"⟩ : MethodName) jdk_52_method_5_code 2 (some .char) [] ({ frames := 0, cells := 0, slots := 0, locals := 0 } : Room) #[(.ref t), (.int (1 : Int32))] h (fun v h' => v = some (.int c1) ∧ h = h') := by
  refine Ctr.body pn7 ?_
  intro p e s m below meth c K
  refine Go.entry (f' := (mkF m 0 #[.val (.ref t), .val (.int (1 : Int32))] [])) (by first | (simp [entryFrame, mkF, argsToLocals, Value.category]; done) | rfl) ?_
  refine Go.getS K (q := 3) rfl (hw _ (List.mem_of_getElem? (i := 53) rfl)) Via.refl (SD) d13_0 ?_
  refine Go.ifY K (q := 28) (by decide) (by decide) d13_3 (show ¬ (1 : Int32) = (0 : Int32) from (by decide)) ?_
  refine Go.iloadN K (q := 29) rfl d13_28 rfl ?_
  refine Go.iconst K (q := 30) rfl (v := (1 : Int32)) (by decide) d13_29 ?_
  refine Go.ishl K (q := 31) rfl d13_30 ?_
  refine Go.istoreN K (q := 32) rfl (L' := #[.val (.ref t), .val (.int ((1 : Int32) <<< ((1 : Int32) &&& 31)))]) d13_31 rfl ?_
  show Go p l e _ s m _ below meth c _ _ _ _ h 0 0 (mkF m 32 #[.val (.ref t), .val (.int (2 : Int32))] [])
  refine Go.aloadN K (q := 33) rfl d13_32 rfl rfl ?_
  refine Go.iloadN K (q := 34) rfl d13_33 rfl ?_
  refine Go.iinc K (q := 37) rfl (L' := #[.val (.ref t), .val (.int ((2 : Int32) + (1 : Int32)))]) (y := (1 : Int32)) (by decide) d13_34 rfl rfl ?_
  refine Go.baload K (q := 38) rfl V d13_37 ⟨by decide, by decide⟩ (v := (.int (own_lo c1))) rfl ?_
  refine Go.sipush K (q := 41) rfl (v := (255 : Int32)) (by decide) d13_38 ?_
  refine Go.iand K (q := 42) rfl d13_41 ?_
  refine Go.getS K (q := 45) rfl (hw _ (List.mem_of_getElem? (i := 54) rfl)) Via.refl (SH) d13_42 ?_
  refine Go.ishl K (q := 46) rfl d13_45 ?_
  refine Go.aloadN K (q := 47) rfl d13_46 rfl rfl ?_
  refine Go.iloadN K (q := 48) rfl d13_47 rfl ?_
  refine Go.baload K (q := 49) rfl V d13_48 ⟨by decide, by decide⟩ (v := (.int (own_hi c1))) rfl ?_
  refine Go.sipush K (q := 52) rfl (v := (255 : Int32)) (by decide) d13_49 ?_
  refine Go.iand K (q := 53) rfl d13_52 ?_
  refine Go.getS K (q := 56) rfl (hw _ (List.mem_of_getElem? (i := 55) rfl)) Via.refl (SL) d13_53 ?_
  refine Go.ishl K (q := 57) rfl d13_56 ?_
  refine Go.ior K (q := 58) rfl d13_57 ?_
  refine Go.i2c K (q := 59) rfl d13_58 ?_
  exact Go.retN K (by simp) d13_59 (by decide) (by decide) (⟨congrArg (fun z => some (Value.int z)) (own_pair r1), rfl⟩)
set_option maxRecDepth 65536 in
set_option maxHeartbeats 40000000 in
theorem c_get2 (l : Launch) (Z : State) (a0 : Array Value) (hw : ∀ d ∈ tables_1, d.before a0 Z = true) (n0 : Nat) (h : Heap) (Z0 : n0 ≤ h.size) (t : Addr) (k : ClassId) (c0 c1 c2 c3 : Int32) (r0 : ¬ c0 < 0 ∧ ¬ (65535 : Int32) < c0) (r1 : ¬ c1 < 0 ∧ ¬ (65535 : Int32) < c1) (r2 : ¬ c2 < 0 ∧ ¬ (65535 : Int32) < c2) (r3 : ¬ c3 < 0 ∧ ¬ (65535 : Int32) < c3)  (V : Arv Z h t k .byte (8 : Int32) [.int (own_lo c0), .int (own_hi c0), .int (own_lo c1), .int (own_hi c1), .int (own_lo c2), .int (own_hi c2), .int (own_lo c3), .int (own_hi c3)] (.int (0 : Int32))) (SD : Sta Z h "java/lang/StringUTF16" "$assertionsDisabled" "Z" (.int 1)) (SH : Sta Z h "java/lang/StringUTF16" "HI_BYTE_SHIFT" "I" (.int 0)) (SL : Sta Z h "java/lang/StringUTF16" "LO_BYTE_SHIFT" "I" (.int 8)) :
    Ctr l Z n0 (⟨"java/lang/StringUTF16", "getChar", "([BI)C"⟩ : MethodName) jdk_52_method_5_code 2 (some .char) [] ({ frames := 0, cells := 0, slots := 0, locals := 0 } : Room) #[(.ref t), (.int (2 : Int32))] h (fun v h' => v = some (.int c2) ∧ h = h') := by
  refine Ctr.body pn7 ?_
  intro p e s m below meth c K
  refine Go.entry (f' := (mkF m 0 #[.val (.ref t), .val (.int (2 : Int32))] [])) (by first | (simp [entryFrame, mkF, argsToLocals, Value.category]; done) | rfl) ?_
  refine Go.getS K (q := 3) rfl (hw _ (List.mem_of_getElem? (i := 53) rfl)) Via.refl (SD) d13_0 ?_
  refine Go.ifY K (q := 28) (by decide) (by decide) d13_3 (show ¬ (1 : Int32) = (0 : Int32) from (by decide)) ?_
  refine Go.iloadN K (q := 29) rfl d13_28 rfl ?_
  refine Go.iconst K (q := 30) rfl (v := (1 : Int32)) (by decide) d13_29 ?_
  refine Go.ishl K (q := 31) rfl d13_30 ?_
  refine Go.istoreN K (q := 32) rfl (L' := #[.val (.ref t), .val (.int ((2 : Int32) <<< ((1 : Int32) &&& 31)))]) d13_31 rfl ?_
  show Go p l e _ s m _ below meth c _ _ _ _ h 0 0 (mkF m 32 #[.val (.ref t), .val (.int (4 : Int32))] [])
  refine Go.aloadN K (q := 33) rfl d13_32 rfl rfl ?_
  refine Go.iloadN K (q := 34) rfl d13_33 rfl ?_
  refine Go.iinc K (q := 37) rfl (L' := #[.val (.ref t), .val (.int ((4 : Int32) + (1 : Int32)))]) (y := (1 : Int32)) (by decide) d13_34 rfl rfl ?_
  refine Go.baload K (q := 38) rfl V d13_37 ⟨by decide, by decide⟩ (v := (.int (own_lo c2))) rfl ?_
  refine Go.sipush K (q := 41) rfl (v := (255 : Int32)) (by decide) d13_38 ?_
  refine Go.iand K (q := 42) rfl d13_41 ?_
  refine Go.getS K (q := 45) rfl (hw _ (List.mem_of_getElem? (i := 54) rfl)) Via.refl (SH) d13_42 ?_
  refine Go.ishl K (q := 46) rfl d13_45 ?_
  refine Go.aloadN K (q := 47) rfl d13_46 rfl rfl ?_
  refine Go.iloadN K (q := 48) rfl d13_47 rfl ?_
  refine Go.baload K (q := 49) rfl V d13_48 ⟨by decide, by decide⟩ (v := (.int (own_hi c2))) rfl ?_
  refine Go.sipush K (q := 52) rfl (v := (255 : Int32)) (by decide) d13_49 ?_
  refine Go.iand K (q := 53) rfl d13_52 ?_
  refine Go.getS K (q := 56) rfl (hw _ (List.mem_of_getElem? (i := 55) rfl)) Via.refl (SL) d13_53 ?_
  refine Go.ishl K (q := 57) rfl d13_56 ?_
  refine Go.ior K (q := 58) rfl d13_57 ?_
  refine Go.i2c K (q := 59) rfl d13_58 ?_
  exact Go.retN K (by simp) d13_59 (by decide) (by decide) (⟨congrArg (fun z => some (Value.int z)) (own_pair r2), rfl⟩)
set_option maxRecDepth 65536 in
set_option maxHeartbeats 40000000 in
theorem c_get3 (l : Launch) (Z : State) (a0 : Array Value) (hw : ∀ d ∈ tables_1, d.before a0 Z = true) (n0 : Nat) (h : Heap) (Z0 : n0 ≤ h.size) (t : Addr) (k : ClassId) (c0 c1 c2 c3 : Int32) (r0 : ¬ c0 < 0 ∧ ¬ (65535 : Int32) < c0) (r1 : ¬ c1 < 0 ∧ ¬ (65535 : Int32) < c1) (r2 : ¬ c2 < 0 ∧ ¬ (65535 : Int32) < c2) (r3 : ¬ c3 < 0 ∧ ¬ (65535 : Int32) < c3)  (V : Arv Z h t k .byte (8 : Int32) [.int (own_lo c0), .int (own_hi c0), .int (own_lo c1), .int (own_hi c1), .int (own_lo c2), .int (own_hi c2), .int (own_lo c3), .int (own_hi c3)] (.int (0 : Int32))) (SD : Sta Z h "java/lang/StringUTF16" "$assertionsDisabled" "Z" (.int 1)) (SH : Sta Z h "java/lang/StringUTF16" "HI_BYTE_SHIFT" "I" (.int 0)) (SL : Sta Z h "java/lang/StringUTF16" "LO_BYTE_SHIFT" "I" (.int 8)) :
    Ctr l Z n0 (⟨"java/lang/StringUTF16", "getChar", "([BI)C"⟩ : MethodName) jdk_52_method_5_code 2 (some .char) [] ({ frames := 0, cells := 0, slots := 0, locals := 0 } : Room) #[(.ref t), (.int (3 : Int32))] h (fun v h' => v = some (.int c3) ∧ h = h') := by
  refine Ctr.body pn7 ?_
  intro p e s m below meth c K
  refine Go.entry (f' := (mkF m 0 #[.val (.ref t), .val (.int (3 : Int32))] [])) (by first | (simp [entryFrame, mkF, argsToLocals, Value.category]; done) | rfl) ?_
  refine Go.getS K (q := 3) rfl (hw _ (List.mem_of_getElem? (i := 53) rfl)) Via.refl (SD) d13_0 ?_
  refine Go.ifY K (q := 28) (by decide) (by decide) d13_3 (show ¬ (1 : Int32) = (0 : Int32) from (by decide)) ?_
  refine Go.iloadN K (q := 29) rfl d13_28 rfl ?_
  refine Go.iconst K (q := 30) rfl (v := (1 : Int32)) (by decide) d13_29 ?_
  refine Go.ishl K (q := 31) rfl d13_30 ?_
  refine Go.istoreN K (q := 32) rfl (L' := #[.val (.ref t), .val (.int ((3 : Int32) <<< ((1 : Int32) &&& 31)))]) d13_31 rfl ?_
  show Go p l e _ s m _ below meth c _ _ _ _ h 0 0 (mkF m 32 #[.val (.ref t), .val (.int (6 : Int32))] [])
  refine Go.aloadN K (q := 33) rfl d13_32 rfl rfl ?_
  refine Go.iloadN K (q := 34) rfl d13_33 rfl ?_
  refine Go.iinc K (q := 37) rfl (L' := #[.val (.ref t), .val (.int ((6 : Int32) + (1 : Int32)))]) (y := (1 : Int32)) (by decide) d13_34 rfl rfl ?_
  refine Go.baload K (q := 38) rfl V d13_37 ⟨by decide, by decide⟩ (v := (.int (own_lo c3))) rfl ?_
  refine Go.sipush K (q := 41) rfl (v := (255 : Int32)) (by decide) d13_38 ?_
  refine Go.iand K (q := 42) rfl d13_41 ?_
  refine Go.getS K (q := 45) rfl (hw _ (List.mem_of_getElem? (i := 54) rfl)) Via.refl (SH) d13_42 ?_
  refine Go.ishl K (q := 46) rfl d13_45 ?_
  refine Go.aloadN K (q := 47) rfl d13_46 rfl rfl ?_
  refine Go.iloadN K (q := 48) rfl d13_47 rfl ?_
  refine Go.baload K (q := 49) rfl V d13_48 ⟨by decide, by decide⟩ (v := (.int (own_hi c3))) rfl ?_
  refine Go.sipush K (q := 52) rfl (v := (255 : Int32)) (by decide) d13_49 ?_
  refine Go.iand K (q := 53) rfl d13_52 ?_
  refine Go.getS K (q := 56) rfl (hw _ (List.mem_of_getElem? (i := 55) rfl)) Via.refl (SL) d13_53 ?_
  refine Go.ishl K (q := 57) rfl d13_56 ?_
  refine Go.ior K (q := 58) rfl d13_57 ?_
  refine Go.i2c K (q := 59) rfl d13_58 ?_
  exact Go.retN K (by simp) d13_59 (by decide) (by decide) (⟨congrArg (fun z => some (Value.int z)) (own_pair r3), rfl⟩)
set_option maxRecDepth 65536 in
set_option maxHeartbeats 40000000 in
theorem c_tb (l : Launch) (Z : State) (a0 : Array Value) (hw : ∀ d ∈ tables_1, d.before a0 Z = true) (n0 : Nat) (h : Heap) (Z0 : n0 ≤ h.size) (sc : Addr) (kc : ClassId) (c0 c1 c2 c3 : Int32) (V_s : Arv Z h sc kc .char (4 : Int32) [.int c0, .int c1, .int c2, .int c3] (.int (0 : Int32))) (SD : Sta Z h "java/lang/StringUTF16" "$assertionsDisabled" "Z" (.int 1)) (SH : Sta Z h "java/lang/StringUTF16" "HI_BYTE_SHIFT" "I" (.int 0)) (SL : Sta Z h "java/lang/StringUTF16" "LO_BYTE_SHIFT" "I" (.int 8)) :
    Ctr l Z n0 (⟨"java/lang/StringUTF16", "toBytes", "([CII)[B"⟩ : MethodName) jdk_52_method_14_code 5 (some (.array .byte)) [] ({ frames := 2, cells := 1, slots := 8, locals := 24 } : Room) #[(.ref sc), (.int (0 : Int32)), (.int (4 : Int32))] h (fun v h' => ∃ (t : Addr) (k : ClassId), v = some (.ref t) ∧ Ext h h' ∧ h.size ≤ t ∧ Arv Z h' t k .byte (8 : Int32) [.int (own_lo c0), .int (own_hi c0), .int (own_lo c1), .int (own_hi c1), .int (own_lo c2), .int (own_hi c2), .int (own_lo c3), .int (own_hi c3)] (.int (0 : Int32))) := by
  refine Ctr.body pn8 ?_
  intro p e s m below meth c K
  refine Go.entry (f' := (mkF m 0 #[.val (.ref sc), .val (.int (0 : Int32)), .val (.int (4 : Int32)), .unset, .unset] [])) (by first | (simp [entryFrame, mkF, argsToLocals, Value.category]; done) | rfl) ?_
  have E0 := Ext.refl h
  refine Go.iloadN K (q := 1) rfl d9_0 rfl ?_
  refine Go.cS K (q := 4) rfl (y := (⟨"java/lang/StringUTF16", "newBytesFor", "(I)[B"⟩ : MethodName)) (c_nbf l Z a0 hw n0 h Z0) (hw _ (List.mem_of_getElem? (i := 43) rfl)) (hw _ (List.mem_of_getElem? (i := 44) rfl)) (hw _ (List.mem_of_getElem? (i := 23) rfl)) (hw _ (List.mem_of_getElem? (i := 45) rfl)) (by decide) pd2 (argsL := [(.int (4 : Int32))]) (rest := []) rfl rfl rfl rfl (W := 0) (Nat.le_of_eq rfl) (by decide) (by decide) d9_1 (cells' := 1) (slots' := 8) rfl rfl (by decide) (by decide) ?_
  intro r2 h1 hQ
  obtain ⟨t, kt, rfl, N_t, g_t, V_t⟩ := hQ
  have ge_E0_t : h.size ≤ t := Nat.le_trans E0.1 (Nat.le_of_eq g_t.symm)
  have E0 := Ext.trans E0 N_t
  show Go p l e _ s m _ below meth c _ _ _ _ h1 1 8 (mkF m 4 #[.val (.ref sc), .val (.int (0 : Int32)), .val (.int (4 : Int32)), .unset, .unset] [(.ref t)])
  have n_t : n0 ≤ t := Nat.le_trans Z0 ge_E0_t
  refine Go.astoreN K (q := 5) rfl (L' := #[.val (.ref sc), .val (.int (0 : Int32)), .val (.int (4 : Int32)), .val (.ref t), .unset]) d9_4 rfl rfl ?_
  refine Go.iconst K (q := 6) rfl (v := (0 : Int32)) (by decide) d9_5 ?_
  refine Go.istore K (q := 8) rfl (L' := #[.val (.ref sc), .val (.int (0 : Int32)), .val (.int (4 : Int32)), .val (.ref t), .val (.int (0 : Int32))]) d9_6 rfl ?_
  refine Go.iload K (q := 10) rfl d9_8 rfl ?_
  refine Go.iloadN K (q := 11) rfl d9_10 rfl ?_
  refine Go.icmpN K (q := 14) rfl d9_11 (show (0 : Int32) < (4 : Int32) from (by decide)) ?_
  refine Go.aloadN K (q := 15) rfl d9_14 rfl rfl ?_
  refine Go.iload K (q := 17) rfl d9_15 rfl ?_
  refine Go.aloadN K (q := 18) rfl d9_17 rfl rfl ?_
  refine Go.iloadN K (q := 19) rfl d9_18 rfl ?_
  refine Go.caload K (q := 20) rfl (V_s.ext E0) d9_19 ⟨by decide, by decide⟩ (v := (.int c0)) rfl ?_
  show Go p l e _ s m _ below meth c _ _ _ _ h1 1 8 (mkF m 20 #[.val (.ref sc), .val (.int (0 : Int32)), .val (.int (4 : Int32)), .val (.ref t), .val (.int (0 : Int32))] [(.int c0), (.int (0 : Int32)), (.ref t)])
  refine Go.cS K (q := 23) rfl (y := (⟨"java/lang/StringUTF16", "putChar", "([BII)V"⟩ : MethodName)) (c_put0 l Z a0 hw n0 h1 (Nat.le_trans Z0 E0.1) t kt c0 (0 : Int32) (0 : Int32) (0 : Int32) (0 : Int32) (0 : Int32) (0 : Int32) (0 : Int32) (0 : Int32) n_t V_t (SD.ext E0) (SH.ext E0) (SL.ext E0)) (hw _ (List.mem_of_getElem? (i := 50) rfl)) (hw _ (List.mem_of_getElem? (i := 51) rfl)) (hw _ (List.mem_of_getElem? (i := 23) rfl)) (hw _ (List.mem_of_getElem? (i := 52) rfl)) (by decide) pd3 (argsL := [(.ref t), (.int (0 : Int32)), (.int c0)]) (rest := []) rfl rfl rfl rfl (W := 0) (Nat.le_of_eq rfl) (by decide) (by decide) d9_20 (cells' := 1) (slots' := 8) rfl rfl (by decide) (by decide) ?_
  intro r5 h4 hQ
  obtain ⟨rfl, K3, V_t⟩ := hQ
  have E0 := Ext.keep E0 K3 (allS ge_E0_t all0)
  show Go p l e _ s m _ below meth c _ _ _ _ h4 1 8 (mkF m 23 #[.val (.ref sc), .val (.int (0 : Int32)), .val (.int (4 : Int32)), .val (.ref t), .val (.int (0 : Int32))] [])
  refine Go.iinc K (q := 26) rfl (L' := #[.val (.ref sc), .val (.int ((0 : Int32) + (1 : Int32))), .val (.int (4 : Int32)), .val (.ref t), .val (.int (0 : Int32))]) (y := (1 : Int32)) (by decide) d9_23 rfl rfl ?_
  refine Go.iinc K (q := 29) rfl (L' := #[.val (.ref sc), .val (.int ((0 : Int32) + (1 : Int32))), .val (.int (4 : Int32)), .val (.ref t), .val (.int ((0 : Int32) + (1 : Int32)))]) (y := (1 : Int32)) (by decide) d9_26 rfl rfl ?_
  refine Go.goto K (q := 8) (by decide) (by decide) d9_29 ?_
  show Go p l e _ s m _ below meth c _ _ _ _ h4 1 8 (mkF m 8 #[.val (.ref sc), .val (.int (1 : Int32)), .val (.int (4 : Int32)), .val (.ref t), .val (.int (1 : Int32))] [])
  refine Go.iload K (q := 10) rfl d9_8 rfl ?_
  refine Go.iloadN K (q := 11) rfl d9_10 rfl ?_
  refine Go.icmpN K (q := 14) rfl d9_11 (show (1 : Int32) < (4 : Int32) from (by decide)) ?_
  refine Go.aloadN K (q := 15) rfl d9_14 rfl rfl ?_
  refine Go.iload K (q := 17) rfl d9_15 rfl ?_
  refine Go.aloadN K (q := 18) rfl d9_17 rfl rfl ?_
  refine Go.iloadN K (q := 19) rfl d9_18 rfl ?_
  refine Go.caload K (q := 20) rfl (V_s.ext E0) d9_19 ⟨by decide, by decide⟩ (v := (.int c1)) rfl ?_
  show Go p l e _ s m _ below meth c _ _ _ _ h4 1 8 (mkF m 20 #[.val (.ref sc), .val (.int (1 : Int32)), .val (.int (4 : Int32)), .val (.ref t), .val (.int (1 : Int32))] [(.int c1), (.int (1 : Int32)), (.ref t)])
  refine Go.cS K (q := 23) rfl (y := (⟨"java/lang/StringUTF16", "putChar", "([BII)V"⟩ : MethodName)) (c_put1 l Z a0 hw n0 h4 (Nat.le_trans Z0 E0.1) t kt c1 (own_lo c0) (own_hi c0) (0 : Int32) (0 : Int32) (0 : Int32) (0 : Int32) (0 : Int32) (0 : Int32) n_t V_t (SD.ext E0) (SH.ext E0) (SL.ext E0)) (hw _ (List.mem_of_getElem? (i := 50) rfl)) (hw _ (List.mem_of_getElem? (i := 51) rfl)) (hw _ (List.mem_of_getElem? (i := 23) rfl)) (hw _ (List.mem_of_getElem? (i := 52) rfl)) (by decide) pd3 (argsL := [(.ref t), (.int (1 : Int32)), (.int c1)]) (rest := []) rfl rfl rfl rfl (W := 0) (Nat.le_of_eq rfl) (by decide) (by decide) d9_20 (cells' := 1) (slots' := 8) rfl rfl (by decide) (by decide) ?_
  intro r8 h7 hQ
  obtain ⟨rfl, K6, V_t⟩ := hQ
  have E0 := Ext.keep E0 K6 (allS ge_E0_t all0)
  show Go p l e _ s m _ below meth c _ _ _ _ h7 1 8 (mkF m 23 #[.val (.ref sc), .val (.int (1 : Int32)), .val (.int (4 : Int32)), .val (.ref t), .val (.int (1 : Int32))] [])
  refine Go.iinc K (q := 26) rfl (L' := #[.val (.ref sc), .val (.int ((1 : Int32) + (1 : Int32))), .val (.int (4 : Int32)), .val (.ref t), .val (.int (1 : Int32))]) (y := (1 : Int32)) (by decide) d9_23 rfl rfl ?_
  refine Go.iinc K (q := 29) rfl (L' := #[.val (.ref sc), .val (.int ((1 : Int32) + (1 : Int32))), .val (.int (4 : Int32)), .val (.ref t), .val (.int ((1 : Int32) + (1 : Int32)))]) (y := (1 : Int32)) (by decide) d9_26 rfl rfl ?_
  refine Go.goto K (q := 8) (by decide) (by decide) d9_29 ?_
  show Go p l e _ s m _ below meth c _ _ _ _ h7 1 8 (mkF m 8 #[.val (.ref sc), .val (.int (2 : Int32)), .val (.int (4 : Int32)), .val (.ref t), .val (.int (2 : Int32))] [])
  refine Go.iload K (q := 10) rfl d9_8 rfl ?_
  refine Go.iloadN K (q := 11) rfl d9_10 rfl ?_
  refine Go.icmpN K (q := 14) rfl d9_11 (show (2 : Int32) < (4 : Int32) from (by decide)) ?_
  refine Go.aloadN K (q := 15) rfl d9_14 rfl rfl ?_
  refine Go.iload K (q := 17) rfl d9_15 rfl ?_
  refine Go.aloadN K (q := 18) rfl d9_17 rfl rfl ?_
  refine Go.iloadN K (q := 19) rfl d9_18 rfl ?_
  refine Go.caload K (q := 20) rfl (V_s.ext E0) d9_19 ⟨by decide, by decide⟩ (v := (.int c2)) rfl ?_
  show Go p l e _ s m _ below meth c _ _ _ _ h7 1 8 (mkF m 20 #[.val (.ref sc), .val (.int (2 : Int32)), .val (.int (4 : Int32)), .val (.ref t), .val (.int (2 : Int32))] [(.int c2), (.int (2 : Int32)), (.ref t)])
  refine Go.cS K (q := 23) rfl (y := (⟨"java/lang/StringUTF16", "putChar", "([BII)V"⟩ : MethodName)) (c_put2 l Z a0 hw n0 h7 (Nat.le_trans Z0 E0.1) t kt c2 (own_lo c0) (own_hi c0) (own_lo c1) (own_hi c1) (0 : Int32) (0 : Int32) (0 : Int32) (0 : Int32) n_t V_t (SD.ext E0) (SH.ext E0) (SL.ext E0)) (hw _ (List.mem_of_getElem? (i := 50) rfl)) (hw _ (List.mem_of_getElem? (i := 51) rfl)) (hw _ (List.mem_of_getElem? (i := 23) rfl)) (hw _ (List.mem_of_getElem? (i := 52) rfl)) (by decide) pd3 (argsL := [(.ref t), (.int (2 : Int32)), (.int c2)]) (rest := []) rfl rfl rfl rfl (W := 0) (Nat.le_of_eq rfl) (by decide) (by decide) d9_20 (cells' := 1) (slots' := 8) rfl rfl (by decide) (by decide) ?_
  intro r11 h10 hQ
  obtain ⟨rfl, K9, V_t⟩ := hQ
  have E0 := Ext.keep E0 K9 (allS ge_E0_t all0)
  show Go p l e _ s m _ below meth c _ _ _ _ h10 1 8 (mkF m 23 #[.val (.ref sc), .val (.int (2 : Int32)), .val (.int (4 : Int32)), .val (.ref t), .val (.int (2 : Int32))] [])
  refine Go.iinc K (q := 26) rfl (L' := #[.val (.ref sc), .val (.int ((2 : Int32) + (1 : Int32))), .val (.int (4 : Int32)), .val (.ref t), .val (.int (2 : Int32))]) (y := (1 : Int32)) (by decide) d9_23 rfl rfl ?_
  refine Go.iinc K (q := 29) rfl (L' := #[.val (.ref sc), .val (.int ((2 : Int32) + (1 : Int32))), .val (.int (4 : Int32)), .val (.ref t), .val (.int ((2 : Int32) + (1 : Int32)))]) (y := (1 : Int32)) (by decide) d9_26 rfl rfl ?_
  refine Go.goto K (q := 8) (by decide) (by decide) d9_29 ?_
  show Go p l e _ s m _ below meth c _ _ _ _ h10 1 8 (mkF m 8 #[.val (.ref sc), .val (.int (3 : Int32)), .val (.int (4 : Int32)), .val (.ref t), .val (.int (3 : Int32))] [])
  refine Go.iload K (q := 10) rfl d9_8 rfl ?_
  refine Go.iloadN K (q := 11) rfl d9_10 rfl ?_
  refine Go.icmpN K (q := 14) rfl d9_11 (show (3 : Int32) < (4 : Int32) from (by decide)) ?_
  refine Go.aloadN K (q := 15) rfl d9_14 rfl rfl ?_
  refine Go.iload K (q := 17) rfl d9_15 rfl ?_
  refine Go.aloadN K (q := 18) rfl d9_17 rfl rfl ?_
  refine Go.iloadN K (q := 19) rfl d9_18 rfl ?_
  refine Go.caload K (q := 20) rfl (V_s.ext E0) d9_19 ⟨by decide, by decide⟩ (v := (.int c3)) rfl ?_
  show Go p l e _ s m _ below meth c _ _ _ _ h10 1 8 (mkF m 20 #[.val (.ref sc), .val (.int (3 : Int32)), .val (.int (4 : Int32)), .val (.ref t), .val (.int (3 : Int32))] [(.int c3), (.int (3 : Int32)), (.ref t)])
  refine Go.cS K (q := 23) rfl (y := (⟨"java/lang/StringUTF16", "putChar", "([BII)V"⟩ : MethodName)) (c_put3 l Z a0 hw n0 h10 (Nat.le_trans Z0 E0.1) t kt c3 (own_lo c0) (own_hi c0) (own_lo c1) (own_hi c1) (own_lo c2) (own_hi c2) (0 : Int32) (0 : Int32) n_t V_t (SD.ext E0) (SH.ext E0) (SL.ext E0)) (hw _ (List.mem_of_getElem? (i := 50) rfl)) (hw _ (List.mem_of_getElem? (i := 51) rfl)) (hw _ (List.mem_of_getElem? (i := 23) rfl)) (hw _ (List.mem_of_getElem? (i := 52) rfl)) (by decide) pd3 (argsL := [(.ref t), (.int (3 : Int32)), (.int c3)]) (rest := []) rfl rfl rfl rfl (W := 0) (Nat.le_of_eq rfl) (by decide) (by decide) d9_20 (cells' := 1) (slots' := 8) rfl rfl (by decide) (by decide) ?_
  intro r14 h13 hQ
  obtain ⟨rfl, K12, V_t⟩ := hQ
  have E0 := Ext.keep E0 K12 (allS ge_E0_t all0)
  show Go p l e _ s m _ below meth c _ _ _ _ h13 1 8 (mkF m 23 #[.val (.ref sc), .val (.int (3 : Int32)), .val (.int (4 : Int32)), .val (.ref t), .val (.int (3 : Int32))] [])
  refine Go.iinc K (q := 26) rfl (L' := #[.val (.ref sc), .val (.int ((3 : Int32) + (1 : Int32))), .val (.int (4 : Int32)), .val (.ref t), .val (.int (3 : Int32))]) (y := (1 : Int32)) (by decide) d9_23 rfl rfl ?_
  refine Go.iinc K (q := 29) rfl (L' := #[.val (.ref sc), .val (.int ((3 : Int32) + (1 : Int32))), .val (.int (4 : Int32)), .val (.ref t), .val (.int ((3 : Int32) + (1 : Int32)))]) (y := (1 : Int32)) (by decide) d9_26 rfl rfl ?_
  refine Go.goto K (q := 8) (by decide) (by decide) d9_29 ?_
  show Go p l e _ s m _ below meth c _ _ _ _ h13 1 8 (mkF m 8 #[.val (.ref sc), .val (.int (4 : Int32)), .val (.int (4 : Int32)), .val (.ref t), .val (.int (4 : Int32))] [])
  refine Go.iload K (q := 10) rfl d9_8 rfl ?_
  refine Go.iloadN K (q := 11) rfl d9_10 rfl ?_
  refine Go.icmpY K (q := 32) (by decide) (by decide) d9_11 (show ¬ (4 : Int32) < (4 : Int32) from (by decide)) ?_
  refine Go.aloadN K (q := 33) rfl d9_32 rfl rfl ?_
  exact Go.retA K rfl rfl d9_33 (by decide) (by decide) (⟨t, kt, rfl, E0, ge_E0_t, V_t⟩)
set_option maxRecDepth 65536 in
set_option maxHeartbeats 40000000 in
theorem c_cmp (l : Launch) (Z : State) (a0 : Array Value) (hw : ∀ d ∈ tables_1, d.before a0 Z = true) (n0 : Nat) (h : Heap) (Z0 : n0 ≤ h.size) (sc : Addr) (kc : ClassId) (c0 c1 c2 c3 : Int32) (r0 : ¬ c0 < 0 ∧ ¬ (65535 : Int32) < c0) (r1 : ¬ c1 < 0 ∧ ¬ (65535 : Int32) < c1) (r2 : ¬ c2 < 0 ∧ ¬ (65535 : Int32) < c2) (r3 : ¬ c3 < 0 ∧ ¬ (65535 : Int32) < c3)  (V_s : Arv Z h sc kc .char (4 : Int32) [.int c0, .int c1, .int c2, .int c3] (.int (0 : Int32))) (SD : Sta Z h "java/lang/StringUTF16" "$assertionsDisabled" "Z" (.int 1)) (SH : Sta Z h "java/lang/StringUTF16" "HI_BYTE_SHIFT" "I" (.int 0)) (SL : Sta Z h "java/lang/StringUTF16" "LO_BYTE_SHIFT" "I" (.int 8)) :
    Ctr l Z n0 (⟨"java/lang/StringUTF16", "compress", "([CII)[B"⟩ : MethodName) jdk_52_method_16_code 6 (some (.array .byte)) [] ({ frames := 3, cells := 2, slots := 12, locals := 40 } : Room) #[(.ref sc), (.int (0 : Int32)), (.int (4 : Int32))] h (fun v h' => ∃ (t : Addr) (k : ClassId), v = some (.ref t) ∧ Ext h h' ∧ h.size ≤ t ∧ (((¬ (255 : Int32) < c0 ∧ ¬ (255 : Int32) < c1 ∧ ¬ (255 : Int32) < c2 ∧ ¬ (255 : Int32) < c3) ∧ Arv Z h' t k .byte (4 : Int32) [.int (own_b8 c0), .int (own_b8 c1), .int (own_b8 c2), .int (own_b8 c3)] (.int (0 : Int32))) ∨ Arv Z h' t k .byte (8 : Int32) [.int (own_lo c0), .int (own_hi c0), .int (own_lo c1), .int (own_hi c1), .int (own_lo c2), .int (own_hi c2), .int (own_lo c3), .int (own_hi c3)] (.int (0 : Int32)))) := by
  refine Ctr.body pn9 ?_
  intro p e s m below meth c K
  refine Go.entry (f' := (mkF m 0 #[.val (.ref sc), .val (.int (0 : Int32)), .val (.int (4 : Int32)), .unset, .unset, .unset] [])) (by first | (simp [entryFrame, mkF, argsToLocals, Value.category]; done) | rfl) ?_
  have E0 := Ext.refl h
  refine Go.iloadN K (q := 1) rfl d5_0 rfl ?_
  refine Go.newarr K (q := 3) rfl (hw _ (List.mem_of_getElem? (i := 25) rfl)) d5_1 (by decide) (cap := 4) (by decide) (by decide) (cells' := 1) (slots' := 4) rfl rfl (by decide) (by decide) ?_
  intro h1 d k_d g_d N_d V_d
  have V_d : Arv Z h1 d k_d .byte (4 : Int32) [(.int (0 : Int32)), (.int (0 : Int32)), (.int (0 : Int32)), (.int (0 : Int32))] (.int (0 : Int32)) := V_d
  have ge_E0_d : h.size ≤ d := Nat.le_trans E0.1 (Nat.le_of_eq g_d.symm)
  have E0 := Ext.trans E0 N_d
  have n_d : n0 ≤ d := Nat.le_trans Z0 ge_E0_d
  refine Go.astoreN K (q := 4) rfl (L' := #[.val (.ref sc), .val (.int (0 : Int32)), .val (.int (4 : Int32)), .val (.ref d), .unset, .unset]) d5_3 rfl rfl ?_
  refine Go.aloadN K (q := 5) rfl d5_4 rfl rfl ?_
  refine Go.iloadN K (q := 6) rfl d5_5 rfl ?_
  refine Go.aloadN K (q := 7) rfl d5_6 rfl rfl ?_
  refine Go.iconst K (q := 8) rfl (v := (0 : Int32)) (by decide) d5_7 ?_
  refine Go.iloadN K (q := 9) rfl d5_8 rfl ?_
  have hne : sc ≠ d := Nat.ne_of_lt (Nat.lt_of_lt_of_le V_s.lt (Nat.le_of_eq g_d.symm))
  refine Go.cS K (q := 12) rfl (y := (⟨"java/lang/StringUTF16", "compress", "([CI[BII)I"⟩ : MethodName)) (c_cmp5 l Z a0 hw n0 h1 (Nat.le_trans Z0 E0.1) sc d kc k_d c0 c1 c2 c3 n_d hne (V_s.ext E0) V_d) (hw _ (List.mem_of_getElem? (i := 26) rfl)) (hw _ (List.mem_of_getElem? (i := 27) rfl)) (hw _ (List.mem_of_getElem? (i := 23) rfl)) (hw _ (List.mem_of_getElem? (i := 28) rfl)) (by decide) pd4 (argsL := [(.ref sc), (.int (0 : Int32)), (.ref d), (.int (0 : Int32)), (.int (4 : Int32))]) (rest := []) rfl rfl rfl rfl (W := 0) (Nat.le_of_eq rfl) (by decide) (by decide) d5_9 (cells' := 1) (slots' := 4) rfl rfl (by decide) (by decide) ?_
  intro r3 h2 hQ
  obtain ⟨K1, hc⟩ := hQ
  have E0 := Ext.keep E0 K1 (allS ge_E0_d all0)
  rcases hc with ⟨rfl, hh, A⟩ | ⟨rfl, hb⟩ | ⟨rfl, hb⟩ | ⟨rfl, hb⟩ | ⟨rfl, hb⟩
  · skip
    show Go p l e _ s m _ below meth c _ _ _ _ h2 1 4 (mkF m 12 #[.val (.ref sc), .val (.int (0 : Int32)), .val (.int (4 : Int32)), .val (.ref d), .unset, .unset] [(.int (4 : Int32))])
    refine Go.istore K (q := 14) rfl (L' := #[.val (.ref sc), .val (.int (0 : Int32)), .val (.int (4 : Int32)), .val (.ref d), .val (.int (4 : Int32)), .unset]) d5_12 rfl ?_
    refine Go.iload K (q := 16) rfl d5_14 rfl ?_
    refine Go.iloadN K (q := 17) rfl d5_16 rfl ?_
    refine Go.icmpY K (q := 57) (by decide) (by decide) d5_17 (show (4 : Int32) = (4 : Int32) from rfl) ?_
    refine Go.aloadN K (q := 58) rfl d5_57 rfl rfl ?_
    exact Go.retA K rfl rfl d5_58 (by decide) (by decide) (⟨d, k_d, rfl, E0, ge_E0_d, Or.inl ⟨hh, A⟩⟩)
  · skip
    show Go p l e _ s m _ below meth c _ _ _ _ h2 1 4 (mkF m 12 #[.val (.ref sc), .val (.int (0 : Int32)), .val (.int (4 : Int32)), .val (.ref d), .unset, .unset] [(.int (0 : Int32))])
    refine Go.istore K (q := 14) rfl (L' := #[.val (.ref sc), .val (.int (0 : Int32)), .val (.int (4 : Int32)), .val (.ref d), .val (.int (0 : Int32)), .unset]) d5_12 rfl ?_
    refine Go.iload K (q := 16) rfl d5_14 rfl ?_
    refine Go.iloadN K (q := 17) rfl d5_16 rfl ?_
    refine Go.icmpN K (q := 20) rfl d5_17 (show ¬ (0 : Int32) = (4 : Int32) from (by decide)) ?_
    refine Go.aloadN K (q := 21) rfl d5_20 rfl rfl ?_
    refine Go.iloadN K (q := 22) rfl d5_21 rfl ?_
    refine Go.iloadN K (q := 23) rfl d5_22 rfl ?_
    refine Go.cS K (q := 26) rfl (y := (⟨"java/lang/StringUTF16", "toBytes", "([CII)[B"⟩ : MethodName)) (c_tb l Z a0 hw n0 h2 (Nat.le_trans Z0 E0.1) sc kc c0 c1 c2 c3 (V_s.ext E0) (SD.ext E0) (SH.ext E0) (SL.ext E0)) (hw _ (List.mem_of_getElem? (i := 40) rfl)) (hw _ (List.mem_of_getElem? (i := 41) rfl)) (hw _ (List.mem_of_getElem? (i := 23) rfl)) (hw _ (List.mem_of_getElem? (i := 42) rfl)) (by decide) pd5 (argsL := [(.ref sc), (.int (0 : Int32)), (.int (4 : Int32))]) (rest := []) rfl rfl rfl rfl (W := 0) (Nat.le_of_eq rfl) (by decide) (by decide) d5_23 (cells' := 2) (slots' := 12) rfl rfl (by decide) (by decide) ?_
    intro r5 h4 hQ
    obtain ⟨t, kt, rfl, N_t, gt, V_t⟩ := hQ
    have ge_t : h.size ≤ t := Nat.le_trans E0.1 gt
    have E0 := Ext.trans E0 N_t
    show Go p l e _ s m _ below meth c _ _ _ _ h4 2 12 (mkF m 26 #[.val (.ref sc), .val (.int (0 : Int32)), .val (.int (4 : Int32)), .val (.ref d), .val (.int (0 : Int32)), .unset] [(.ref t)])
    refine Go.astore K (q := 28) rfl (L' := #[.val (.ref sc), .val (.int (0 : Int32)), .val (.int (4 : Int32)), .val (.ref d), .val (.int (0 : Int32)), .val (.ref t)]) d5_26 rfl rfl ?_
    refine Go.aload K (q := 30) rfl d5_28 rfl rfl ?_
    refine Go.iload K (q := 32) rfl d5_30 rfl ?_
    refine Go.cS K (q := 35) rfl (y := (⟨"java/lang/StringUTF16", "getChar", "([BI)C"⟩ : MethodName)) (c_get0 l Z a0 hw n0 h4 (Nat.le_trans Z0 E0.1) t kt c0 c1 c2 c3 r0 r1 r2 r3 V_t (SD.ext E0) (SH.ext E0) (SL.ext E0)) (hw _ (List.mem_of_getElem? (i := 56) rfl)) (hw _ (List.mem_of_getElem? (i := 57) rfl)) (hw _ (List.mem_of_getElem? (i := 23) rfl)) (hw _ (List.mem_of_getElem? (i := 58) rfl)) (by decide) pd6 (argsL := [(.ref t), (.int (0 : Int32))]) (rest := []) rfl rfl rfl rfl (W := 0) (Nat.le_of_eq rfl) (by decide) (by decide) d5_32 (cells' := 2) (slots' := 12) rfl rfl (by decide) (by decide) ?_
    intro r7 h6 hQ
    obtain ⟨rfl, rfl⟩ := hQ
    show Go p l e _ s m _ below meth c _ _ _ _ h4 2 12 (mkF m 35 #[.val (.ref sc), .val (.int (0 : Int32)), .val (.int (4 : Int32)), .val (.ref d), .val (.int (0 : Int32)), .val (.ref t)] [(.int c0)])
    refine Go.sipush K (q := 38) rfl (v := (255 : Int32)) (by decide) d5_35 ?_
    refine Go.icmpY K (q := 54) (by decide) (by decide) d5_38 (show (255 : Int32) < c0 from hb) ?_
    refine Go.aload K (q := 56) rfl d5_54 rfl rfl ?_
    exact Go.retA K rfl rfl d5_56 (by decide) (by decide) (⟨t, kt, rfl, E0, ge_t, Or.inr V_t⟩)
  · skip
    show Go p l e _ s m _ below meth c _ _ _ _ h2 1 4 (mkF m 12 #[.val (.ref sc), .val (.int (0 : Int32)), .val (.int (4 : Int32)), .val (.ref d), .unset, .unset] [(.int (1 : Int32))])
    refine Go.istore K (q := 14) rfl (L' := #[.val (.ref sc), .val (.int (0 : Int32)), .val (.int (4 : Int32)), .val (.ref d), .val (.int (1 : Int32)), .unset]) d5_12 rfl ?_
    refine Go.iload K (q := 16) rfl d5_14 rfl ?_
    refine Go.iloadN K (q := 17) rfl d5_16 rfl ?_
    refine Go.icmpN K (q := 20) rfl d5_17 (show ¬ (1 : Int32) = (4 : Int32) from (by decide)) ?_
    refine Go.aloadN K (q := 21) rfl d5_20 rfl rfl ?_
    refine Go.iloadN K (q := 22) rfl d5_21 rfl ?_
    refine Go.iloadN K (q := 23) rfl d5_22 rfl ?_
    refine Go.cS K (q := 26) rfl (y := (⟨"java/lang/StringUTF16", "toBytes", "([CII)[B"⟩ : MethodName)) (c_tb l Z a0 hw n0 h2 (Nat.le_trans Z0 E0.1) sc kc c0 c1 c2 c3 (V_s.ext E0) (SD.ext E0) (SH.ext E0) (SL.ext E0)) (hw _ (List.mem_of_getElem? (i := 40) rfl)) (hw _ (List.mem_of_getElem? (i := 41) rfl)) (hw _ (List.mem_of_getElem? (i := 23) rfl)) (hw _ (List.mem_of_getElem? (i := 42) rfl)) (by decide) pd5 (argsL := [(.ref sc), (.int (0 : Int32)), (.int (4 : Int32))]) (rest := []) rfl rfl rfl rfl (W := 0) (Nat.le_of_eq rfl) (by decide) (by decide) d5_23 (cells' := 2) (slots' := 12) rfl rfl (by decide) (by decide) ?_
    intro r9 h8 hQ
    obtain ⟨t, kt, rfl, N_t, gt, V_t⟩ := hQ
    have ge_t : h.size ≤ t := Nat.le_trans E0.1 gt
    have E0 := Ext.trans E0 N_t
    show Go p l e _ s m _ below meth c _ _ _ _ h8 2 12 (mkF m 26 #[.val (.ref sc), .val (.int (0 : Int32)), .val (.int (4 : Int32)), .val (.ref d), .val (.int (1 : Int32)), .unset] [(.ref t)])
    refine Go.astore K (q := 28) rfl (L' := #[.val (.ref sc), .val (.int (0 : Int32)), .val (.int (4 : Int32)), .val (.ref d), .val (.int (1 : Int32)), .val (.ref t)]) d5_26 rfl rfl ?_
    refine Go.aload K (q := 30) rfl d5_28 rfl rfl ?_
    refine Go.iload K (q := 32) rfl d5_30 rfl ?_
    refine Go.cS K (q := 35) rfl (y := (⟨"java/lang/StringUTF16", "getChar", "([BI)C"⟩ : MethodName)) (c_get1 l Z a0 hw n0 h8 (Nat.le_trans Z0 E0.1) t kt c0 c1 c2 c3 r0 r1 r2 r3 V_t (SD.ext E0) (SH.ext E0) (SL.ext E0)) (hw _ (List.mem_of_getElem? (i := 56) rfl)) (hw _ (List.mem_of_getElem? (i := 57) rfl)) (hw _ (List.mem_of_getElem? (i := 23) rfl)) (hw _ (List.mem_of_getElem? (i := 58) rfl)) (by decide) pd6 (argsL := [(.ref t), (.int (1 : Int32))]) (rest := []) rfl rfl rfl rfl (W := 0) (Nat.le_of_eq rfl) (by decide) (by decide) d5_32 (cells' := 2) (slots' := 12) rfl rfl (by decide) (by decide) ?_
    intro r11 h10 hQ
    obtain ⟨rfl, rfl⟩ := hQ
    show Go p l e _ s m _ below meth c _ _ _ _ h8 2 12 (mkF m 35 #[.val (.ref sc), .val (.int (0 : Int32)), .val (.int (4 : Int32)), .val (.ref d), .val (.int (1 : Int32)), .val (.ref t)] [(.int c1)])
    refine Go.sipush K (q := 38) rfl (v := (255 : Int32)) (by decide) d5_35 ?_
    refine Go.icmpY K (q := 54) (by decide) (by decide) d5_38 (show (255 : Int32) < c1 from hb) ?_
    refine Go.aload K (q := 56) rfl d5_54 rfl rfl ?_
    exact Go.retA K rfl rfl d5_56 (by decide) (by decide) (⟨t, kt, rfl, E0, ge_t, Or.inr V_t⟩)
  · skip
    show Go p l e _ s m _ below meth c _ _ _ _ h2 1 4 (mkF m 12 #[.val (.ref sc), .val (.int (0 : Int32)), .val (.int (4 : Int32)), .val (.ref d), .unset, .unset] [(.int (2 : Int32))])
    refine Go.istore K (q := 14) rfl (L' := #[.val (.ref sc), .val (.int (0 : Int32)), .val (.int (4 : Int32)), .val (.ref d), .val (.int (2 : Int32)), .unset]) d5_12 rfl ?_
    refine Go.iload K (q := 16) rfl d5_14 rfl ?_
    refine Go.iloadN K (q := 17) rfl d5_16 rfl ?_
    refine Go.icmpN K (q := 20) rfl d5_17 (show ¬ (2 : Int32) = (4 : Int32) from (by decide)) ?_
    refine Go.aloadN K (q := 21) rfl d5_20 rfl rfl ?_
    refine Go.iloadN K (q := 22) rfl d5_21 rfl ?_
    refine Go.iloadN K (q := 23) rfl d5_22 rfl ?_
    refine Go.cS K (q := 26) rfl (y := (⟨"java/lang/StringUTF16", "toBytes", "([CII)[B"⟩ : MethodName)) (c_tb l Z a0 hw n0 h2 (Nat.le_trans Z0 E0.1) sc kc c0 c1 c2 c3 (V_s.ext E0) (SD.ext E0) (SH.ext E0) (SL.ext E0)) (hw _ (List.mem_of_getElem? (i := 40) rfl)) (hw _ (List.mem_of_getElem? (i := 41) rfl)) (hw _ (List.mem_of_getElem? (i := 23) rfl)) (hw _ (List.mem_of_getElem? (i := 42) rfl)) (by decide) pd5 (argsL := [(.ref sc), (.int (0 : Int32)), (.int (4 : Int32))]) (rest := []) rfl rfl rfl rfl (W := 0) (Nat.le_of_eq rfl) (by decide) (by decide) d5_23 (cells' := 2) (slots' := 12) rfl rfl (by decide) (by decide) ?_
    intro r13 h12 hQ
    obtain ⟨t, kt, rfl, N_t, gt, V_t⟩ := hQ
    have ge_t : h.size ≤ t := Nat.le_trans E0.1 gt
    have E0 := Ext.trans E0 N_t
    show Go p l e _ s m _ below meth c _ _ _ _ h12 2 12 (mkF m 26 #[.val (.ref sc), .val (.int (0 : Int32)), .val (.int (4 : Int32)), .val (.ref d), .val (.int (2 : Int32)), .unset] [(.ref t)])
    refine Go.astore K (q := 28) rfl (L' := #[.val (.ref sc), .val (.int (0 : Int32)), .val (.int (4 : Int32)), .val (.ref d), .val (.int (2 : Int32)), .val (.ref t)]) d5_26 rfl rfl ?_
    refine Go.aload K (q := 30) rfl d5_28 rfl rfl ?_
    refine Go.iload K (q := 32) rfl d5_30 rfl ?_
    refine Go.cS K (q := 35) rfl (y := (⟨"java/lang/StringUTF16", "getChar", "([BI)C"⟩ : MethodName)) (c_get2 l Z a0 hw n0 h12 (Nat.le_trans Z0 E0.1) t kt c0 c1 c2 c3 r0 r1 r2 r3 V_t (SD.ext E0) (SH.ext E0) (SL.ext E0)) (hw _ (List.mem_of_getElem? (i := 56) rfl)) (hw _ (List.mem_of_getElem? (i := 57) rfl)) (hw _ (List.mem_of_getElem? (i := 23) rfl)) (hw _ (List.mem_of_getElem? (i := 58) rfl)) (by decide) pd6 (argsL := [(.ref t), (.int (2 : Int32))]) (rest := []) rfl rfl rfl rfl (W := 0) (Nat.le_of_eq rfl) (by decide) (by decide) d5_32 (cells' := 2) (slots' := 12) rfl rfl (by decide) (by decide) ?_
    intro r15 h14 hQ
    obtain ⟨rfl, rfl⟩ := hQ
    show Go p l e _ s m _ below meth c _ _ _ _ h12 2 12 (mkF m 35 #[.val (.ref sc), .val (.int (0 : Int32)), .val (.int (4 : Int32)), .val (.ref d), .val (.int (2 : Int32)), .val (.ref t)] [(.int c2)])
    refine Go.sipush K (q := 38) rfl (v := (255 : Int32)) (by decide) d5_35 ?_
    refine Go.icmpY K (q := 54) (by decide) (by decide) d5_38 (show (255 : Int32) < c2 from hb) ?_
    refine Go.aload K (q := 56) rfl d5_54 rfl rfl ?_
    exact Go.retA K rfl rfl d5_56 (by decide) (by decide) (⟨t, kt, rfl, E0, ge_t, Or.inr V_t⟩)
  · skip
    show Go p l e _ s m _ below meth c _ _ _ _ h2 1 4 (mkF m 12 #[.val (.ref sc), .val (.int (0 : Int32)), .val (.int (4 : Int32)), .val (.ref d), .unset, .unset] [(.int (3 : Int32))])
    refine Go.istore K (q := 14) rfl (L' := #[.val (.ref sc), .val (.int (0 : Int32)), .val (.int (4 : Int32)), .val (.ref d), .val (.int (3 : Int32)), .unset]) d5_12 rfl ?_
    refine Go.iload K (q := 16) rfl d5_14 rfl ?_
    refine Go.iloadN K (q := 17) rfl d5_16 rfl ?_
    refine Go.icmpN K (q := 20) rfl d5_17 (show ¬ (3 : Int32) = (4 : Int32) from (by decide)) ?_
    refine Go.aloadN K (q := 21) rfl d5_20 rfl rfl ?_
    refine Go.iloadN K (q := 22) rfl d5_21 rfl ?_
    refine Go.iloadN K (q := 23) rfl d5_22 rfl ?_
    refine Go.cS K (q := 26) rfl (y := (⟨"java/lang/StringUTF16", "toBytes", "([CII)[B"⟩ : MethodName)) (c_tb l Z a0 hw n0 h2 (Nat.le_trans Z0 E0.1) sc kc c0 c1 c2 c3 (V_s.ext E0) (SD.ext E0) (SH.ext E0) (SL.ext E0)) (hw _ (List.mem_of_getElem? (i := 40) rfl)) (hw _ (List.mem_of_getElem? (i := 41) rfl)) (hw _ (List.mem_of_getElem? (i := 23) rfl)) (hw _ (List.mem_of_getElem? (i := 42) rfl)) (by decide) pd5 (argsL := [(.ref sc), (.int (0 : Int32)), (.int (4 : Int32))]) (rest := []) rfl rfl rfl rfl (W := 0) (Nat.le_of_eq rfl) (by decide) (by decide) d5_23 (cells' := 2) (slots' := 12) rfl rfl (by decide) (by decide) ?_
    intro r17 h16 hQ
    obtain ⟨t, kt, rfl, N_t, gt, V_t⟩ := hQ
    have ge_t : h.size ≤ t := Nat.le_trans E0.1 gt
    have E0 := Ext.trans E0 N_t
    show Go p l e _ s m _ below meth c _ _ _ _ h16 2 12 (mkF m 26 #[.val (.ref sc), .val (.int (0 : Int32)), .val (.int (4 : Int32)), .val (.ref d), .val (.int (3 : Int32)), .unset] [(.ref t)])
    refine Go.astore K (q := 28) rfl (L' := #[.val (.ref sc), .val (.int (0 : Int32)), .val (.int (4 : Int32)), .val (.ref d), .val (.int (3 : Int32)), .val (.ref t)]) d5_26 rfl rfl ?_
    refine Go.aload K (q := 30) rfl d5_28 rfl rfl ?_
    refine Go.iload K (q := 32) rfl d5_30 rfl ?_
    refine Go.cS K (q := 35) rfl (y := (⟨"java/lang/StringUTF16", "getChar", "([BI)C"⟩ : MethodName)) (c_get3 l Z a0 hw n0 h16 (Nat.le_trans Z0 E0.1) t kt c0 c1 c2 c3 r0 r1 r2 r3 V_t (SD.ext E0) (SH.ext E0) (SL.ext E0)) (hw _ (List.mem_of_getElem? (i := 56) rfl)) (hw _ (List.mem_of_getElem? (i := 57) rfl)) (hw _ (List.mem_of_getElem? (i := 23) rfl)) (hw _ (List.mem_of_getElem? (i := 58) rfl)) (by decide) pd6 (argsL := [(.ref t), (.int (3 : Int32))]) (rest := []) rfl rfl rfl rfl (W := 0) (Nat.le_of_eq rfl) (by decide) (by decide) d5_32 (cells' := 2) (slots' := 12) rfl rfl (by decide) (by decide) ?_
    intro r19 h18 hQ
    obtain ⟨rfl, rfl⟩ := hQ
    show Go p l e _ s m _ below meth c _ _ _ _ h16 2 12 (mkF m 35 #[.val (.ref sc), .val (.int (0 : Int32)), .val (.int (4 : Int32)), .val (.ref d), .val (.int (3 : Int32)), .val (.ref t)] [(.int c3)])
    refine Go.sipush K (q := 38) rfl (v := (255 : Int32)) (by decide) d5_35 ?_
    refine Go.icmpY K (q := 54) (by decide) (by decide) d5_38 (show (255 : Int32) < c3 from hb) ?_
    refine Go.aload K (q := 56) rfl d5_54 rfl rfl ?_
    exact Go.retA K rfl rfl d5_56 (by decide) (by decide) (⟨t, kt, rfl, E0, ge_t, Or.inr V_t⟩)
set_option maxRecDepth 65536 in
set_option maxHeartbeats 40000000 in
theorem c_cd0 (l : Launch) (Z : State) (a0 : Array Value) (hw : ∀ d ∈ tables_1, d.before a0 Z = true) (n0 : Nat) (h : Heap) (Z0 : n0 ≤ h.size) (t : Addr) (k : ClassId) (vs : List Value) (V : Arv Z h t k .byte (4 : Int32) vs (.int (0 : Int32))) :
    Ctr l Z n0 (⟨"java/lang/StringUTF16", "coderFromArrayLen", "([BI)B"⟩ : MethodName) jdk_52_method_15_code 2 (some .byte) [] ({ frames := 0, cells := 0, slots := 0, locals := 0 } : Room) #[(.ref t), (.int (4 : Int32))] h (fun v h' => v = some (.int 0) ∧ h = h') := by
  refine Ctr.body pn10 ?_
  intro p e s m below meth c K
  refine Go.entry (f' := (mkF m 0 #[.val (.ref t), .val (.int (4 : Int32))] [])) (by first | (simp [entryFrame, mkF, argsToLocals, Value.category]; done) | rfl) ?_
  refine Go.iloadN K (q := 1) rfl d7_0 rfl ?_
  refine Go.aloadN K (q := 2) rfl d7_1 rfl rfl ?_
  refine Go.alen K (q := 3) rfl V d7_2 ?_
  refine Go.isub K (q := 4) rfl d7_3 ?_
  refine Go.bipush K (q := 6) rfl (v := (31 : Int32)) (by decide) d7_4 ?_
  refine Go.iushr K (q := 7) rfl d7_6 ?_
  refine Go.i2b K (q := 8) rfl d7_7 ?_
  exact Go.retN K (by simp) d7_8 (by decide) (by decide) (⟨rfl, rfl⟩)
set_option maxRecDepth 65536 in
set_option maxHeartbeats 40000000 in
theorem c_cd1 (l : Launch) (Z : State) (a0 : Array Value) (hw : ∀ d ∈ tables_1, d.before a0 Z = true) (n0 : Nat) (h : Heap) (Z0 : n0 ≤ h.size) (t : Addr) (k : ClassId) (vs : List Value) (V : Arv Z h t k .byte (8 : Int32) vs (.int (0 : Int32))) :
    Ctr l Z n0 (⟨"java/lang/StringUTF16", "coderFromArrayLen", "([BI)B"⟩ : MethodName) jdk_52_method_15_code 2 (some .byte) [] ({ frames := 0, cells := 0, slots := 0, locals := 0 } : Room) #[(.ref t), (.int (4 : Int32))] h (fun v h' => v = some (.int 1) ∧ h = h') := by
  refine Ctr.body pn10 ?_
  intro p e s m below meth c K
  refine Go.entry (f' := (mkF m 0 #[.val (.ref t), .val (.int (4 : Int32))] [])) (by first | (simp [entryFrame, mkF, argsToLocals, Value.category]; done) | rfl) ?_
  refine Go.iloadN K (q := 1) rfl d7_0 rfl ?_
  refine Go.aloadN K (q := 2) rfl d7_1 rfl rfl ?_
  refine Go.alen K (q := 3) rfl V d7_2 ?_
  refine Go.isub K (q := 4) rfl d7_3 ?_
  refine Go.bipush K (q := 6) rfl (v := (31 : Int32)) (by decide) d7_4 ?_
  refine Go.iushr K (q := 7) rfl d7_6 ?_
  refine Go.i2b K (q := 8) rfl d7_7 ?_
  exact Go.retN K (by simp) d7_8 (by decide) (by decide) (⟨rfl, rfl⟩)
set_option maxRecDepth 65536 in
set_option maxHeartbeats 40000000 in
theorem c_s4 (l : Launch) (Z : State) (a0 : Array Value) (hw : ∀ d ∈ tables_1, d.before a0 Z = true) (n0 : Nat) (h : Heap) (Z0 : n0 ≤ h.size) (a sc : Addr) (kc : ClassId) (v0 k0 : Value) (c0 c1 c2 c3 : Int32) (r0 : ¬ c0 < 0 ∧ ¬ (65535 : Int32) < c0) (r1 : ¬ c1 < 0 ∧ ¬ (65535 : Int32) < c1) (r2 : ¬ c2 < 0 ∧ ¬ (65535 : Int32) < c2) (r3 : ¬ c3 < 0 ∧ ¬ (65535 : Int32) < c3)  (ga : n0 ≤ a) (E : Exa Z h a "java/lang/String") (Fv : Fld Z h a "java/lang/String" "value" "[B" v0) (Fc : Fld Z h a "java/lang/String" "coder" "B" k0) (V_s : Arv Z h sc kc .char (4 : Int32) [.int c0, .int c1, .int c2, .int c3] (.int (0 : Int32))) (SD : Sta Z h "java/lang/StringUTF16" "$assertionsDisabled" "Z" (.int 1)) (SH : Sta Z h "java/lang/StringUTF16" "HI_BYTE_SHIFT" "I" (.int 0)) (SL : Sta Z h "java/lang/StringUTF16" "LO_BYTE_SHIFT" "I" (.int 8)) (z : Int32) (Sa : Sta Z h "java/lang/String" "COMPACT_STRINGS" "Z" (.int z)) (hz : ¬ z = 0) :
    Ctr l Z n0 (⟨"java/lang/String", "<init>", "([CIILjava/lang/Void;)V"⟩ : MethodName) jdk_42_method_149_code 6 none [] ({ frames := 4, cells := 2, slots := 12, locals := 57 } : Room) #[(.ref a), (.ref sc), (.int (0 : Int32)), (.int (4 : Int32)), .null] h (fun v h' => v = none ∧ Keep h h' [a] ∧ S4 Z h' a c0 c1 c2 c3) := by
  refine Ctr.body pn11 ?_
  intro p e s m below meth c K
  have E0' := E
  refine Go.entry (f' := (mkF m 0 #[.val (.ref a), .val (.ref sc), .val (.int (0 : Int32)), .val (.int (4 : Int32)), .val .null, .unset] [])) (by first | (simp [entryFrame, mkF, argsToLocals, Value.category]; done) | rfl) ?_
  have KK := Keep.refl h [a]
  have E0 := Ext.refl h
  refine Go.aloadN K (q := 1) rfl d3_0 rfl rfl ?_
  refine Go.initO K (q := 4) rfl (hw _ (List.mem_of_getElem? (i := 17) rfl)) (hw _ (List.mem_of_getElem? (i := 18) rfl)) (hw _ (List.mem_of_getElem? (i := 19) rfl)) rfl d3_1 (by decide) (W := 0) (Nat.le_of_eq rfl) (by decide) ?_
  refine Go.iloadN K (q := 5) rfl d3_4 rfl ?_
  refine Go.ifY K (q := 27) (by decide) (by decide) d3_5 (show ¬ (4 : Int32) = (0 : Int32) from (by decide)) ?_
  refine Go.getS K (q := 30) rfl (hw _ (List.mem_of_getElem? (i := 20) rfl)) Via.refl (Sa) d3_27 ?_
  refine Go.ifN K (q := 33) rfl d3_30 (show ¬ z = (0 : Int32) from hz) ?_
  refine Go.aloadN K (q := 34) rfl d3_33 rfl rfl ?_
  refine Go.iloadN K (q := 35) rfl d3_34 rfl ?_
  refine Go.iloadN K (q := 36) rfl d3_35 rfl ?_
  refine Go.cS K (q := 39) rfl (y := (⟨"java/lang/StringUTF16", "compress", "([CII)[B"⟩ : MethodName)) (c_cmp l Z a0 hw n0 h Z0 sc kc c0 c1 c2 c3 r0 r1 r2 r3 V_s SD SH SL) (hw _ (List.mem_of_getElem? (i := 21) rfl)) (hw _ (List.mem_of_getElem? (i := 22) rfl)) (hw _ (List.mem_of_getElem? (i := 23) rfl)) (hw _ (List.mem_of_getElem? (i := 24) rfl)) (by decide) pd5 (argsL := [(.ref sc), (.int (0 : Int32)), (.int (4 : Int32))]) (rest := []) rfl rfl rfl rfl (W := 0) (Nat.le_of_eq rfl) (by decide) (by decide) d3_36 (cells' := 2) (slots' := 12) rfl rfl (by decide) (by decide) ?_
  intro r2 h1 hQ
  obtain ⟨t, kt, rfl, N_t, gt, hT⟩ := hQ
  have E0 := Ext.trans E0 N_t
  show Go p l e _ s m _ below meth c _ _ _ _ h1 2 12 (mkF m 39 #[.val (.ref a), .val (.ref sc), .val (.int (0 : Int32)), .val (.int (4 : Int32)), .val .null, .unset] [(.ref t)])
  have KK := KK.ext N_t
  have E := E.ext N_t
  have Fv := Fv.ext N_t
  have Fc := Fc.ext N_t
  have hta : t ≠ a := fun q => Nat.lt_irrefl _ (Nat.lt_of_lt_of_le E0'.lt (q ▸ gt))
  rcases hT with ⟨hh, A⟩ | A
  · skip
    refine Go.astore K (q := 41) rfl (L' := #[.val (.ref a), .val (.ref sc), .val (.int (0 : Int32)), .val (.int (4 : Int32)), .val .null, .val (.ref t)]) d3_39 rfl rfl ?_
    refine Go.aloadN K (q := 42) rfl d3_41 rfl rfl ?_
    refine Go.aload K (q := 44) rfl d3_42 rfl rfl ?_
    refine Go.iloadN K (q := 45) rfl d3_44 rfl ?_
    refine Go.cS K (q := 48) rfl (y := (⟨"java/lang/StringUTF16", "coderFromArrayLen", "([BI)B"⟩ : MethodName)) (c_cd0 l Z a0 hw n0 h1 (Nat.le_trans Z0 E0.1) t kt _ A) (hw _ (List.mem_of_getElem? (i := 29) rfl)) (hw _ (List.mem_of_getElem? (i := 30) rfl)) (hw _ (List.mem_of_getElem? (i := 23) rfl)) (hw _ (List.mem_of_getElem? (i := 31) rfl)) (by decide) pd7 (argsL := [(.ref t), (.int (4 : Int32))]) (rest := [(.ref a)]) rfl rfl rfl rfl (W := 1) (Nat.le_of_eq rfl) (by decide) (by decide) d3_45 (cells' := 2) (slots' := 12) rfl rfl (by decide) (by decide) ?_
    intro r4 h3 hQ
    obtain ⟨rfl, rfl⟩ := hQ
    show Go p l e _ s m _ below meth c _ _ _ _ h1 2 12 (mkF m 48 #[.val (.ref a), .val (.ref sc), .val (.int (0 : Int32)), .val (.int (4 : Int32)), .val .null, .val (.ref t)] [(.int (0 : Int32)), (.ref a)])
    refine Go.putF K (q := 51) rfl (hw _ (List.mem_of_getElem? (i := 32) rfl)) Via.refl Fc E (Or.inr ⟨(hw _ (List.mem_of_getElem? (i := 33) rfl)), rfl, rfl⟩) (hw _ (List.mem_of_getElem? (i := 8) rfl)) (ty := .byte) (by decide) rfl rfl d3_48 ga ?_
    intro h5 W6 Fc E
    have KK := KK.wr W6 (Or.inl List.mem_cons_self)
    have A := A.other W6 hta
    have Fv := Fv.other W6 (Or.inr (Ne.symm (own_slots hw)))
    refine Go.aloadN K (q := 52) rfl d3_51 rfl rfl ?_
    refine Go.aload K (q := 54) rfl d3_52 rfl rfl ?_
    refine Go.putF K (q := 57) rfl (hw _ (List.mem_of_getElem? (i := 34) rfl)) Via.refl Fv E (Or.inr ⟨(hw _ (List.mem_of_getElem? (i := 35) rfl)), rfl, rfl⟩) (hw _ (List.mem_of_getElem? (i := 8) rfl)) (ty := (.array .byte)) (by decide) rfl rfl d3_54 ga ?_
    intro h7 W8 Fv E
    have KK := KK.wr W8 (Or.inl List.mem_cons_self)
    have A := A.other W8 hta
    have Fc := Fc.other W8 (Or.inr (own_slots hw))
    exact Go.retV K d3_57 (by decide) (by decide) (⟨rfl, KK, t, kt, E, Fv, Or.inl ⟨Fc, hh, A⟩⟩)
  · skip
    refine Go.astore K (q := 41) rfl (L' := #[.val (.ref a), .val (.ref sc), .val (.int (0 : Int32)), .val (.int (4 : Int32)), .val .null, .val (.ref t)]) d3_39 rfl rfl ?_
    refine Go.aloadN K (q := 42) rfl d3_41 rfl rfl ?_
    refine Go.aload K (q := 44) rfl d3_42 rfl rfl ?_
    refine Go.iloadN K (q := 45) rfl d3_44 rfl ?_
    refine Go.cS K (q := 48) rfl (y := (⟨"java/lang/StringUTF16", "coderFromArrayLen", "([BI)B"⟩ : MethodName)) (c_cd1 l Z a0 hw n0 h1 (Nat.le_trans Z0 E0.1) t kt _ A) (hw _ (List.mem_of_getElem? (i := 29) rfl)) (hw _ (List.mem_of_getElem? (i := 30) rfl)) (hw _ (List.mem_of_getElem? (i := 23) rfl)) (hw _ (List.mem_of_getElem? (i := 31) rfl)) (by decide) pd7 (argsL := [(.ref t), (.int (4 : Int32))]) (rest := [(.ref a)]) rfl rfl rfl rfl (W := 1) (Nat.le_of_eq rfl) (by decide) (by decide) d3_45 (cells' := 2) (slots' := 12) rfl rfl (by decide) (by decide) ?_
    intro r10 h9 hQ
    obtain ⟨rfl, rfl⟩ := hQ
    show Go p l e _ s m _ below meth c _ _ _ _ h1 2 12 (mkF m 48 #[.val (.ref a), .val (.ref sc), .val (.int (0 : Int32)), .val (.int (4 : Int32)), .val .null, .val (.ref t)] [(.int (1 : Int32)), (.ref a)])
    refine Go.putF K (q := 51) rfl (hw _ (List.mem_of_getElem? (i := 32) rfl)) Via.refl Fc E (Or.inr ⟨(hw _ (List.mem_of_getElem? (i := 33) rfl)), rfl, rfl⟩) (hw _ (List.mem_of_getElem? (i := 8) rfl)) (ty := .byte) (by decide) rfl rfl d3_48 ga ?_
    intro h11 W12 Fc E
    have KK := KK.wr W12 (Or.inl List.mem_cons_self)
    have A := A.other W12 hta
    have Fv := Fv.other W12 (Or.inr (Ne.symm (own_slots hw)))
    refine Go.aloadN K (q := 52) rfl d3_51 rfl rfl ?_
    refine Go.aload K (q := 54) rfl d3_52 rfl rfl ?_
    refine Go.putF K (q := 57) rfl (hw _ (List.mem_of_getElem? (i := 34) rfl)) Via.refl Fv E (Or.inr ⟨(hw _ (List.mem_of_getElem? (i := 35) rfl)), rfl, rfl⟩) (hw _ (List.mem_of_getElem? (i := 8) rfl)) (ty := (.array .byte)) (by decide) rfl rfl d3_54 ga ?_
    intro h13 W14 Fv E
    have KK := KK.wr W14 (Or.inl List.mem_cons_self)
    have A := A.other W14 hta
    have Fc := Fc.other W14 (Or.inr (own_slots hw))
    exact Go.retV K d3_57 (by decide) (by decide) (⟨rfl, KK, t, kt, E, Fv, Or.inr ⟨Fc, A⟩⟩)
set_option maxRecDepth 65536 in
set_option maxHeartbeats 40000000 in
theorem c_s1 (l : Launch) (Z : State) (a0 : Array Value) (hw : ∀ d ∈ tables_1, d.before a0 Z = true) (n0 : Nat) (h : Heap) (Z0 : n0 ≤ h.size) (a sc : Addr) (kc : ClassId) (v0 k0 : Value) (c0 c1 c2 c3 : Int32) (r0 : ¬ c0 < 0 ∧ ¬ (65535 : Int32) < c0) (r1 : ¬ c1 < 0 ∧ ¬ (65535 : Int32) < c1) (r2 : ¬ c2 < 0 ∧ ¬ (65535 : Int32) < c2) (r3 : ¬ c3 < 0 ∧ ¬ (65535 : Int32) < c3)  (ga : n0 ≤ a) (E : Exa Z h a "java/lang/String") (Fv : Fld Z h a "java/lang/String" "value" "[B" v0) (Fc : Fld Z h a "java/lang/String" "coder" "B" k0) (V_s : Arv Z h sc kc .char (4 : Int32) [.int c0, .int c1, .int c2, .int c3] (.int (0 : Int32))) (SD : Sta Z h "java/lang/StringUTF16" "$assertionsDisabled" "Z" (.int 1)) (SH : Sta Z h "java/lang/StringUTF16" "HI_BYTE_SHIFT" "I" (.int 0)) (SL : Sta Z h "java/lang/StringUTF16" "LO_BYTE_SHIFT" "I" (.int 8)) (z : Int32) (Sa : Sta Z h "java/lang/String" "COMPACT_STRINGS" "Z" (.int z)) (hz : ¬ z = 0) :
    Ctr l Z n0 (⟨"java/lang/String", "<init>", "([C)V"⟩ : MethodName) jdk_42_method_3_code 2 none [] ({ frames := 5, cells := 2, slots := 12, locals := 74 } : Room) #[(.ref a), (.ref sc)] h (fun v h' => v = none ∧ Keep h h' [a] ∧ S4 Z h' a c0 c1 c2 c3) := by
  refine Ctr.body pn12 ?_
  intro p e s m below meth c K
  refine Go.entry (f' := (mkF m 0 #[.val (.ref a), .val (.ref sc)] [])) (by first | (simp [entryFrame, mkF, argsToLocals, Value.category]; done) | rfl) ?_
  refine Go.aloadN K (q := 1) rfl d2_0 rfl rfl ?_
  refine Go.aloadN K (q := 2) rfl d2_1 rfl rfl ?_
  refine Go.iconst K (q := 3) rfl (v := (0 : Int32)) (by decide) d2_2 ?_
  refine Go.aloadN K (q := 4) rfl d2_3 rfl rfl ?_
  refine Go.alen K (q := 5) rfl V_s d2_4 ?_
  refine Go.aconstNull K (q := 6) rfl d2_5 ?_
  show Go p l e _ s m _ below meth c _ _ _ _ h 0 0 (mkF m 6 #[.val (.ref a), .val (.ref sc)] [.null, (.int (4 : Int32)), (.int (0 : Int32)), (.ref sc), (.ref a)])
  refine Go.cI K (q := 9) rfl (y := (⟨"java/lang/String", "<init>", "([CIILjava/lang/Void;)V"⟩ : MethodName)) (c_s4 l Z a0 hw n0 h Z0 a sc kc _ _ c0 c1 c2 c3 r0 r1 r2 r3 ga E Fv Fc V_s SD SH SL z Sa hz) rfl (hw _ (List.mem_of_getElem? (i := 13) rfl)) (hw _ (List.mem_of_getElem? (i := 14) rfl)) (hw _ (List.mem_of_getElem? (i := 9) rfl)) (hw _ (List.mem_of_getElem? (i := 16) rfl)) (by decide) (a := a) pd8 (argsL := [(.ref sc), (.int (0 : Int32)), (.int (4 : Int32)), .null]) (rest := []) rfl rfl rfl rfl (W := 0) (Nat.le_of_eq rfl) (by decide) (by decide) d2_6 (cells' := 2) (slots' := 12) rfl rfl (by decide) (by decide) ?_
  intro r2 h1 hQ
  obtain ⟨rfl, KK, S0⟩ := hQ
  show Go p l e _ s m _ below meth c _ _ _ _ h1 2 12 (mkF m 9 #[.val (.ref a), .val (.ref sc)] [])
  exact Go.retV K d2_9 (by decide) (by decide) (⟨rfl, KK, S0⟩)
set_option maxRecDepth 65536 in
set_option maxHeartbeats 40000000 in
theorem c_il0 (l : Launch) (Z : State) (a0 : Array Value) (hw : ∀ d ∈ tables_1, d.before a0 Z = true) (n0 : Nat) (h : Heap) (Z0 : n0 ≤ h.size) (a : Addr) (Fc : Fld Z h a "java/lang/String" "coder" "B" (.int 0)) (z : Int32) (Sa : Sta Z h "java/lang/String" "COMPACT_STRINGS" "Z" (.int z)) (hz : ¬ z = 0) :
    Ctr l Z n0 (⟨"java/lang/String", "isLatin1", "()Z"⟩ : MethodName) jdk_42_method_154_code 1 (some .boolean) [] ({ frames := 0, cells := 0, slots := 0, locals := 0 } : Room) #[(.ref a)] h (fun v h' => v = some (.int 1) ∧ h = h') := by
  refine Ctr.body pn13 ?_
  intro p e s m below meth c K
  refine Go.entry (f' := (mkF m 0 #[.val (.ref a)] [])) (by first | (simp [entryFrame, mkF, argsToLocals, Value.category]; done) | rfl) ?_
  refine Go.getS K (q := 3) rfl (hw _ (List.mem_of_getElem? (i := 20) rfl)) Via.refl (Sa) d17_0 ?_
  refine Go.ifN K (q := 6) rfl d17_3 (show ¬ z = (0 : Int32) from hz) ?_
  refine Go.aloadN K (q := 7) rfl d17_6 rfl rfl ?_
  refine Go.getF K (q := 10) rfl (hw _ (List.mem_of_getElem? (i := 32) rfl)) Via.refl (Fc) d17_7 ?_
  refine Go.ifN K (q := 13) rfl d17_10 (show (0 : Int32) = (0 : Int32) from rfl) ?_
  refine Go.iconst K (q := 14) rfl (v := (1 : Int32)) (by decide) d17_13 ?_
  refine Go.goto K (q := 18) (by decide) (by decide) d17_14 ?_
  exact Go.retN K (by simp) d17_18 (by decide) (by decide) (⟨rfl, rfl⟩)
set_option maxRecDepth 65536 in
set_option maxHeartbeats 40000000 in
theorem c_il1 (l : Launch) (Z : State) (a0 : Array Value) (hw : ∀ d ∈ tables_1, d.before a0 Z = true) (n0 : Nat) (h : Heap) (Z0 : n0 ≤ h.size) (a : Addr) (Fc : Fld Z h a "java/lang/String" "coder" "B" (.int 1)) (z : Int32) (Sa : Sta Z h "java/lang/String" "COMPACT_STRINGS" "Z" (.int z)) (hz : ¬ z = 0) :
    Ctr l Z n0 (⟨"java/lang/String", "isLatin1", "()Z"⟩ : MethodName) jdk_42_method_154_code 1 (some .boolean) [] ({ frames := 0, cells := 0, slots := 0, locals := 0 } : Room) #[(.ref a)] h (fun v h' => v = some (.int 0) ∧ h = h') := by
  refine Ctr.body pn13 ?_
  intro p e s m below meth c K
  refine Go.entry (f' := (mkF m 0 #[.val (.ref a)] [])) (by first | (simp [entryFrame, mkF, argsToLocals, Value.category]; done) | rfl) ?_
  refine Go.getS K (q := 3) rfl (hw _ (List.mem_of_getElem? (i := 20) rfl)) Via.refl (Sa) d17_0 ?_
  refine Go.ifN K (q := 6) rfl d17_3 (show ¬ z = (0 : Int32) from hz) ?_
  refine Go.aloadN K (q := 7) rfl d17_6 rfl rfl ?_
  refine Go.getF K (q := 10) rfl (hw _ (List.mem_of_getElem? (i := 32) rfl)) Via.refl (Fc) d17_7 ?_
  refine Go.ifY K (q := 17) (by decide) (by decide) d17_10 (show ¬ (1 : Int32) = (0 : Int32) from (by decide)) ?_
  refine Go.iconst K (q := 18) rfl (v := (0 : Int32)) (by decide) d17_17 ?_
  exact Go.retN K (by simp) d17_18 (by decide) (by decide) (⟨rfl, rfl⟩)
set_option maxRecDepth 65536 in
set_option maxHeartbeats 40000000 in
theorem c_ul (l : Launch) (Z : State) (a0 : Array Value) (hw : ∀ d ∈ tables_1, d.before a0 Z = true) (n0 : Nat) (h : Heap) (Z0 : n0 ≤ h.size) (t : Addr) (k : ClassId) (vs : List Value) (V : Arv Z h t k .byte (8 : Int32) vs (.int (0 : Int32))) :
    Ctr l Z n0 (⟨"java/lang/StringUTF16", "length", "([B)I"⟩ : MethodName) jdk_52_method_6_code 1 (some .int) [] ({ frames := 0, cells := 0, slots := 0, locals := 0 } : Room) #[(.ref t)] h (fun v h' => v = some (.int 4) ∧ h = h') := by
  refine Ctr.body pn14 ?_
  intro p e s m below meth c K
  refine Go.entry (f' := (mkF m 0 #[.val (.ref t)] [])) (by first | (simp [entryFrame, mkF, argsToLocals, Value.category]; done) | rfl) ?_
  refine Go.aloadN K (q := 1) rfl d23_0 rfl rfl ?_
  refine Go.alen K (q := 2) rfl V d23_1 ?_
  refine Go.iconst K (q := 3) rfl (v := (1 : Int32)) (by decide) d23_2 ?_
  refine Go.ishr K (q := 4) rfl d23_3 ?_
  exact Go.retI K d23_4 (by decide) (by decide) (⟨rfl, rfl⟩)
set_option maxRecDepth 65536 in
set_option maxHeartbeats 40000000 in
theorem c_pci0 (l : Launch) (Z : State) (a0 : Array Value) (hw : ∀ d ∈ tables_1, d.before a0 Z = true) (n0 : Nat) (h : Heap) (Z0 : n0 ≤ h.size) (fm : Value) (rf : fm.isRef = true) :
    Ctr l Z n0 (⟨"jdk/internal/util/Preconditions", "checkIndex", "(IILjava/util/function/BiFunction;)I"⟩ : MethodName) jdk_41_method_11_code 3 (some .int) [] ({ frames := 0, cells := 0, slots := 0, locals := 0 } : Room) #[(.int (0 : Int32)), (.int (4 : Int32)), fm] h (fun v h' => v = some (.int 0) ∧ h = h') := by
  refine Ctr.body pn15 ?_
  intro p e s m below meth c K
  refine Go.entry (f' := (mkF m 0 #[.val (.int (0 : Int32)), .val (.int (4 : Int32)), .val fm] [])) (by rcases ref_cases rf with rfl | ⟨z, rfl⟩ <;> first | (simp [entryFrame, mkF, argsToLocals, Value.category]; done) | rfl) ?_
  refine Go.iloadN K (q := 1) rfl d20_0 rfl ?_
  refine Go.ifN K (q := 4) rfl d20_1 (show ¬ (0 : Int32) < (0 : Int32) from (by decide)) ?_
  refine Go.iloadN K (q := 5) rfl d20_4 rfl ?_
  refine Go.iloadN K (q := 6) rfl d20_5 rfl ?_
  refine Go.icmpY K (q := 16) (by decide) (by decide) d20_6 (show (0 : Int32) < (4 : Int32) from (by decide)) ?_
  refine Go.iloadN K (q := 17) rfl d20_16 rfl ?_
  exact Go.retI K d20_17 (by decide) (by decide) (⟨rfl, rfl⟩)
set_option maxRecDepth 65536 in
set_option maxHeartbeats 40000000 in
theorem c_sci0 (l : Launch) (Z : State) (a0 : Array Value) (hw : ∀ d ∈ tables_1, d.before a0 Z = true) (n0 : Nat) (h : Heap) (Z0 : n0 ≤ h.size) (fm : Value) (rf : fm.isRef = true) (Sf : Sta Z h "jdk/internal/util/Preconditions" "SIOOBE_FORMATTER" "Ljava/util/function/BiFunction;" fm) :
    Ctr l Z n0 (⟨"java/lang/String", "checkIndex", "(II)V"⟩ : MethodName) jdk_42_method_155_code 2 none [] ({ frames := 1, cells := 0, slots := 0, locals := 14 } : Room) #[(.int (0 : Int32)), (.int (4 : Int32))] h (fun v h' => v = none ∧ h = h') := by
  refine Ctr.body pn16 ?_
  intro p e s m below meth c K
  refine Go.entry (f' := (mkF m 0 #[.val (.int (0 : Int32)), .val (.int (4 : Int32))] [])) (by first | (simp [entryFrame, mkF, argsToLocals, Value.category]; done) | rfl) ?_
  refine Go.iloadN K (q := 1) rfl d19_0 rfl ?_
  refine Go.iloadN K (q := 2) rfl d19_1 rfl ?_
  refine Go.getS K (q := 5) rfl (hw _ (List.mem_of_getElem? (i := 82) rfl)) Via.refl (Sf) d19_2 ?_
  have cat1 : (fm : Value).category = 1 := by rcases ref_cases rf with rfl | ⟨z, rfl⟩ <;> rfl
  refine Go.cS K (q := 8) rfl (y := (⟨"jdk/internal/util/Preconditions", "checkIndex", "(IILjava/util/function/BiFunction;)I"⟩ : MethodName)) (c_pci0 l Z a0 hw n0 h Z0 fm rf) (hw _ (List.mem_of_getElem? (i := 84) rfl)) (hw _ (List.mem_of_getElem? (i := 85) rfl)) (hw _ (List.mem_of_getElem? (i := 83) rfl)) (hw _ (List.mem_of_getElem? (i := 86) rfl)) (by decide) pd9 (argsL := [(.int (0 : Int32)), (.int (4 : Int32)), fm]) (rest := []) rfl rfl rfl rfl (W := 0) (Nat.le_of_eq rfl) (by decide) (by decide) d19_5 (cells' := 0) (slots' := 0) rfl rfl (by decide) (by decide) ?_
  intro r2 h1 hQ
  obtain ⟨rfl, rfl⟩ := hQ
  show Go p l e _ s m _ below meth c _ _ _ _ h 0 0 (mkF m 8 #[.val (.int (0 : Int32)), .val (.int (4 : Int32))] [(.int (0 : Int32))])
  refine Go.pop K (q := 9) rfl d19_8 rfl ?_
  exact Go.retV K d19_9 (by decide) (by decide) (⟨rfl, rfl⟩)
set_option maxRecDepth 65536 in
set_option maxHeartbeats 40000000 in
theorem c_lch0 (l : Launch) (Z : State) (a0 : Array Value) (hw : ∀ d ∈ tables_1, d.before a0 Z = true) (n0 : Nat) (h : Heap) (Z0 : n0 ≤ h.size) (t : Addr) (k : ClassId) (c0 c1 c2 c3 : Int32) (r0 : ¬ c0 < 0 ∧ ¬ (65535 : Int32) < c0) (r1 : ¬ c1 < 0 ∧ ¬ (65535 : Int32) < c1) (r2 : ¬ c2 < 0 ∧ ¬ (65535 : Int32) < c2) (r3 : ¬ c3 < 0 ∧ ¬ (65535 : Int32) < c3)  (hh : ¬ (255 : Int32) < c0 ∧ ¬ (255 : Int32) < c1 ∧ ¬ (255 : Int32) < c2 ∧ ¬ (255 : Int32) < c3) (V : Arv Z h t k .byte (4 : Int32) [.int (own_b8 c0), .int (own_b8 c1), .int (own_b8 c2), .int (own_b8 c3)] (.int (0 : Int32))) (fm : Value) (rf : fm.isRef = true) (Sf : Sta Z h "jdk/internal/util/Preconditions" "SIOOBE_FORMATTER" "Ljava/util/function/BiFunction;" fm) :
    Ctr l Z n0 (⟨"java/lang/StringLatin1", "charAt", "([BI)C"⟩ : MethodName) jdk_43_method_2_code 2 (some .char) [] ({ frames := 2, cells := 0, slots := 0, locals := 27 } : Room) #[(.ref t), (.int (0 : Int32))] h (fun v h' => v = some (.int c0) ∧ h = h') := by
  refine Ctr.body pn17 ?_
  intro p e s m below meth c K
  refine Go.entry (f' := (mkF m 0 #[.val (.ref t), .val (.int (0 : Int32))] [])) (by first | (simp [entryFrame, mkF, argsToLocals, Value.category]; done) | rfl) ?_
  refine Go.iloadN K (q := 1) rfl d18_0 rfl ?_
  refine Go.aloadN K (q := 2) rfl d18_1 rfl rfl ?_
  refine Go.alen K (q := 3) rfl V d18_2 ?_
  refine Go.cS K (q := 6) rfl (y := (⟨"java/lang/String", "checkIndex", "(II)V"⟩ : MethodName)) (c_sci0 l Z a0 hw n0 h Z0 fm rf Sf) (hw _ (List.mem_of_getElem? (i := 79) rfl)) (hw _ (List.mem_of_getElem? (i := 80) rfl)) (hw _ (List.mem_of_getElem? (i := 9) rfl)) (hw _ (List.mem_of_getElem? (i := 81) rfl)) (by decide) pd10 (argsL := [(.int (0 : Int32)), (.int (4 : Int32))]) (rest := []) rfl rfl rfl rfl (W := 0) (Nat.le_of_eq rfl) (by decide) (by decide) d18_3 (cells' := 0) (slots' := 0) rfl rfl (by decide) (by decide) ?_
  intro r2 h1 hQ
  obtain ⟨rfl, rfl⟩ := hQ
  show Go p l e _ s m _ below meth c _ _ _ _ h 0 0 (mkF m 6 #[.val (.ref t), .val (.int (0 : Int32))] [])
  refine Go.aloadN K (q := 7) rfl d18_6 rfl rfl ?_
  refine Go.iloadN K (q := 8) rfl d18_7 rfl ?_
  refine Go.baload K (q := 9) rfl V d18_8 ⟨by decide, by decide⟩ (v := (.int (own_b8 c0))) rfl ?_
  refine Go.sipush K (q := 12) rfl (v := (255 : Int32)) (by decide) d18_9 ?_
  refine Go.iand K (q := 13) rfl d18_12 ?_
  refine Go.i2c K (q := 14) rfl d18_13 ?_
  exact Go.retN K (by simp) d18_14 (by decide) (by decide) (⟨congrArg (fun z => some (Value.int z)) (own_l8 r0 hh.1), rfl⟩)
set_option maxRecDepth 65536 in
set_option maxHeartbeats 40000000 in
theorem c_uci0 (l : Launch) (Z : State) (a0 : Array Value) (hw : ∀ d ∈ tables_1, d.before a0 Z = true) (n0 : Nat) (h : Heap) (Z0 : n0 ≤ h.size) (t : Addr) (k : ClassId) (vs : List Value) (V : Arv Z h t k .byte (8 : Int32) vs (.int (0 : Int32))) (fm : Value) (rf : fm.isRef = true) (Sf : Sta Z h "jdk/internal/util/Preconditions" "SIOOBE_FORMATTER" "Ljava/util/function/BiFunction;" fm) :
    Ctr l Z n0 (⟨"java/lang/StringUTF16", "checkIndex", "(I[B)V"⟩ : MethodName) jdk_52_method_91_code 2 none [] ({ frames := 2, cells := 0, slots := 0, locals := 27 } : Room) #[(.int (0 : Int32)), (.ref t)] h (fun v h' => v = none ∧ h = h') := by
  refine Ctr.body pn18 ?_
  intro p e s m below meth c K
  refine Go.entry (f' := (mkF m 0 #[.val (.int (0 : Int32)), .val (.ref t)] [])) (by first | (simp [entryFrame, mkF, argsToLocals, Value.category]; done) | rfl) ?_
  refine Go.iloadN K (q := 1) rfl d22_0 rfl ?_
  refine Go.aloadN K (q := 2) rfl d22_1 rfl rfl ?_
  refine Go.cS K (q := 5) rfl (y := (⟨"java/lang/StringUTF16", "length", "([B)I"⟩ : MethodName)) (c_ul l Z a0 hw n0 h Z0 t _ _ V) (hw _ (List.mem_of_getElem? (i := 93) rfl)) (hw _ (List.mem_of_getElem? (i := 94) rfl)) (hw _ (List.mem_of_getElem? (i := 23) rfl)) (hw _ (List.mem_of_getElem? (i := 95) rfl)) (by decide) pd11 (argsL := [(.ref t)]) (rest := [(.int (0 : Int32))]) rfl rfl rfl rfl (W := 1) (Nat.le_of_eq rfl) (by decide) (by decide) d22_2 (cells' := 0) (slots' := 0) rfl rfl (by decide) (by decide) ?_
  intro r2 h1 hQ
  obtain ⟨rfl, rfl⟩ := hQ
  show Go p l e _ s m _ below meth c _ _ _ _ h 0 0 (mkF m 5 #[.val (.int (0 : Int32)), .val (.ref t)] [(.int (4 : Int32)), (.int (0 : Int32))])
  refine Go.cS K (q := 8) rfl (y := (⟨"java/lang/String", "checkIndex", "(II)V"⟩ : MethodName)) (c_sci0 l Z a0 hw n0 h Z0 fm rf Sf) (hw _ (List.mem_of_getElem? (i := 96) rfl)) (hw _ (List.mem_of_getElem? (i := 80) rfl)) (hw _ (List.mem_of_getElem? (i := 9) rfl)) (hw _ (List.mem_of_getElem? (i := 81) rfl)) (by decide) pd10 (argsL := [(.int (0 : Int32)), (.int (4 : Int32))]) (rest := []) rfl rfl rfl rfl (W := 0) (Nat.le_of_eq rfl) (by decide) (by decide) d22_5 (cells' := 0) (slots' := 0) rfl rfl (by decide) (by decide) ?_
  intro r4 h3 hQ
  obtain ⟨rfl, rfl⟩ := hQ
  show Go p l e _ s m _ below meth c _ _ _ _ h 0 0 (mkF m 8 #[.val (.int (0 : Int32)), .val (.ref t)] [])
  exact Go.retV K d22_8 (by decide) (by decide) (⟨rfl, rfl⟩)
set_option maxRecDepth 65536 in
set_option maxHeartbeats 40000000 in
theorem c_uch0 (l : Launch) (Z : State) (a0 : Array Value) (hw : ∀ d ∈ tables_1, d.before a0 Z = true) (n0 : Nat) (h : Heap) (Z0 : n0 ≤ h.size) (t : Addr) (k : ClassId) (c0 c1 c2 c3 : Int32) (r0 : ¬ c0 < 0 ∧ ¬ (65535 : Int32) < c0) (r1 : ¬ c1 < 0 ∧ ¬ (65535 : Int32) < c1) (r2 : ¬ c2 < 0 ∧ ¬ (65535 : Int32) < c2) (r3 : ¬ c3 < 0 ∧ ¬ (65535 : Int32) < c3)  (V : Arv Z h t k .byte (8 : Int32) [.int (own_lo c0), .int (own_hi c0), .int (own_lo c1), .int (own_hi c1), .int (own_lo c2), .int (own_hi c2), .int (own_lo c3), .int (own_hi c3)] (.int (0 : Int32))) (SD : Sta Z h "java/lang/StringUTF16" "$assertionsDisabled" "Z" (.int 1)) (SH : Sta Z h "java/lang/StringUTF16" "HI_BYTE_SHIFT" "I" (.int 0)) (SL : Sta Z h "java/lang/StringUTF16" "LO_BYTE_SHIFT" "I" (.int 8)) (fm : Value) (rf : fm.isRef = true) (Sf : Sta Z h "jdk/internal/util/Preconditions" "SIOOBE_FORMATTER" "Ljava/util/function/BiFunction;" fm) :
    Ctr l Z n0 (⟨"java/lang/StringUTF16", "charAt", "([BI)C"⟩ : MethodName) jdk_52_method_83_code 2 (some .char) [] ({ frames := 3, cells := 0, slots := 0, locals := 40 } : Room) #[(.ref t), (.int (0 : Int32))] h (fun v h' => v = some (.int c0) ∧ h = h') := by
  refine Ctr.body pn19 ?_
  intro p e s m below meth c K
  refine Go.entry (f' := (mkF m 0 #[.val (.ref t), .val (.int (0 : Int32))] [])) (by first | (simp [entryFrame, mkF, argsToLocals, Value.category]; done) | rfl) ?_
  refine Go.iloadN K (q := 1) rfl d21_0 rfl ?_
  refine Go.aloadN K (q := 2) rfl d21_1 rfl rfl ?_
  refine Go.cS K (q := 5) rfl (y := (⟨"java/lang/StringUTF16", "checkIndex", "(I[B)V"⟩ : MethodName)) (c_uci0 l Z a0 hw n0 h Z0 t _ _ V fm rf Sf) (hw _ (List.mem_of_getElem? (i := 90) rfl)) (hw _ (List.mem_of_getElem? (i := 91) rfl)) (hw _ (List.mem_of_getElem? (i := 23) rfl)) (hw _ (List.mem_of_getElem? (i := 92) rfl)) (by decide) pd12 (argsL := [(.int (0 : Int32)), (.ref t)]) (rest := []) rfl rfl rfl rfl (W := 0) (Nat.le_of_eq rfl) (by decide) (by decide) d21_2 (cells' := 0) (slots' := 0) rfl rfl (by decide) (by decide) ?_
  intro r2 h1 hQ
  obtain ⟨rfl, rfl⟩ := hQ
  show Go p l e _ s m _ below meth c _ _ _ _ h 0 0 (mkF m 5 #[.val (.ref t), .val (.int (0 : Int32))] [])
  refine Go.aloadN K (q := 6) rfl d21_5 rfl rfl ?_
  refine Go.iloadN K (q := 7) rfl d21_6 rfl ?_
  refine Go.cS K (q := 10) rfl (y := (⟨"java/lang/StringUTF16", "getChar", "([BI)C"⟩ : MethodName)) (c_get0 l Z a0 hw n0 h Z0 t k c0 c1 c2 c3 r0 r1 r2 r3 V SD SH SL) (hw _ (List.mem_of_getElem? (i := 56) rfl)) (hw _ (List.mem_of_getElem? (i := 57) rfl)) (hw _ (List.mem_of_getElem? (i := 23) rfl)) (hw _ (List.mem_of_getElem? (i := 58) rfl)) (by decide) pd6 (argsL := [(.ref t), (.int (0 : Int32))]) (rest := []) rfl rfl rfl rfl (W := 0) (Nat.le_of_eq rfl) (by decide) (by decide) d21_7 (cells' := 0) (slots' := 0) rfl rfl (by decide) (by decide) ?_
  intro r4 h3 hQ
  obtain ⟨rfl, rfl⟩ := hQ
  show Go p l e _ s m _ below meth c _ _ _ _ h 0 0 (mkF m 10 #[.val (.ref t), .val (.int (0 : Int32))] [(.int c0)])
  exact Go.retN K (by simp) d21_10 (by decide) (by decide) (⟨congrArg (fun z => some (Value.int z)) (own_nc16 r0), rfl⟩)
set_option maxRecDepth 65536 in
set_option maxHeartbeats 40000000 in
theorem c_ch0 (l : Launch) (Z : State) (a0 : Array Value) (hw : ∀ d ∈ tables_1, d.before a0 Z = true) (n0 : Nat) (h : Heap) (Z0 : n0 ≤ h.size) (a : Addr) (c0 c1 c2 c3 : Int32) (r0 : ¬ c0 < 0 ∧ ¬ (65535 : Int32) < c0) (r1 : ¬ c1 < 0 ∧ ¬ (65535 : Int32) < c1) (r2 : ¬ c2 < 0 ∧ ¬ (65535 : Int32) < c2) (r3 : ¬ c3 < 0 ∧ ¬ (65535 : Int32) < c3)  (S0 : S4 Z h a c0 c1 c2 c3) (SD : Sta Z h "java/lang/StringUTF16" "$assertionsDisabled" "Z" (.int 1)) (SH : Sta Z h "java/lang/StringUTF16" "HI_BYTE_SHIFT" "I" (.int 0)) (SL : Sta Z h "java/lang/StringUTF16" "LO_BYTE_SHIFT" "I" (.int 8)) (z : Int32) (Sa : Sta Z h "java/lang/String" "COMPACT_STRINGS" "Z" (.int z)) (hz : ¬ z = 0) (fm : Value) (rf : fm.isRef = true) (Sf : Sta Z h "jdk/internal/util/Preconditions" "SIOOBE_FORMATTER" "Ljava/util/function/BiFunction;" fm) :
    Ctr l Z n0 (⟨"java/lang/String", "charAt", "(I)C"⟩ : MethodName) jdk_42_method_56_code 2 (some .char) [] ({ frames := 4, cells := 0, slots := 0, locals := 53 } : Room) #[(.ref a), (.int (0 : Int32))] h (fun v h' => v = some (.int c0) ∧ h = h') := by
  refine Ctr.body pn20 ?_
  intro p e s m below meth c K
  refine Go.entry (f' := (mkF m 0 #[.val (.ref a), .val (.int (0 : Int32))] [])) (by first | (simp [entryFrame, mkF, argsToLocals, Value.category]; done) | rfl) ?_
  refine Go.aloadN K (q := 1) rfl d16_0 rfl rfl ?_
  obtain ⟨t, k, E, Fv, ⟨Fc, hh, V⟩ | ⟨Fc, V⟩⟩ := S0
  · skip
    refine Go.cV K (q := 4) rfl (y := (⟨"java/lang/String", "isLatin1", "()Z"⟩ : MethodName)) (z := (⟨"java/lang/String", "isLatin1", "()Z"⟩ : MethodName)) (c_il0 l Z a0 hw n0 h Z0 a Fc z Sa hz) (hw _ (List.mem_of_getElem? (i := 70) rfl)) (hw _ (List.mem_of_getElem? (i := 71) rfl)) (nfS K (hw _ (List.mem_of_getElem? (i := 73) rfl))) (hw _ (List.mem_of_getElem? (i := 73) rfl)) (hw _ (List.mem_of_getElem? (i := 72) rfl)) (hw _ (List.mem_of_getElem? (i := 9) rfl)) (hw _ (List.mem_of_getElem? (i := 74) rfl)) (by decide) E pd13 (argsL := []) (rest := []) rfl rfl rfl rfl (W := 0) (Nat.le_of_eq rfl) (by decide) (by decide) d16_1 (cells' := 0) (slots' := 0) rfl rfl (by decide) (by decide) ?_
    intro r2 h1 hQ
    obtain ⟨rfl, rfl⟩ := hQ
    show Go p l e _ s m _ below meth c _ _ _ _ h 0 0 (mkF m 4 #[.val (.ref a), .val (.int (0 : Int32))] [(.int (1 : Int32))])
    refine Go.ifN K (q := 7) rfl d16_4 (show ¬ (1 : Int32) = (0 : Int32) from (by decide)) ?_
    refine Go.aloadN K (q := 8) rfl d16_7 rfl rfl ?_
    refine Go.getF K (q := 11) rfl (hw _ (List.mem_of_getElem? (i := 34) rfl)) Via.refl (Fv) d16_8 ?_
    refine Go.iloadN K (q := 12) rfl d16_11 rfl ?_
    refine Go.cS K (q := 15) rfl (y := (⟨"java/lang/StringLatin1", "charAt", "([BI)C"⟩ : MethodName)) (c_lch0 l Z a0 hw n0 h Z0 t k c0 c1 c2 c3 r0 r1 r2 r3 hh V fm rf Sf) (hw _ (List.mem_of_getElem? (i := 75) rfl)) (hw _ (List.mem_of_getElem? (i := 76) rfl)) (hw _ (List.mem_of_getElem? (i := 77) rfl)) (hw _ (List.mem_of_getElem? (i := 78) rfl)) (by decide) pd6 (argsL := [(.ref t), (.int (0 : Int32))]) (rest := []) rfl rfl rfl rfl (W := 0) (Nat.le_of_eq rfl) (by decide) (by decide) d16_12 (cells' := 0) (slots' := 0) rfl rfl (by decide) (by decide) ?_
    intro r4 h3 hQ
    obtain ⟨rfl, rfl⟩ := hQ
    show Go p l e _ s m _ below meth c _ _ _ _ h 0 0 (mkF m 15 #[.val (.ref a), .val (.int (0 : Int32))] [(.int c0)])
    exact Go.retN K (by simp) d16_15 (by decide) (by decide) (⟨congrArg (fun z => some (Value.int z)) (own_nc16 r0), rfl⟩)
  · skip
    refine Go.cV K (q := 4) rfl (y := (⟨"java/lang/String", "isLatin1", "()Z"⟩ : MethodName)) (z := (⟨"java/lang/String", "isLatin1", "()Z"⟩ : MethodName)) (c_il1 l Z a0 hw n0 h Z0 a Fc z Sa hz) (hw _ (List.mem_of_getElem? (i := 70) rfl)) (hw _ (List.mem_of_getElem? (i := 71) rfl)) (nfS K (hw _ (List.mem_of_getElem? (i := 73) rfl))) (hw _ (List.mem_of_getElem? (i := 73) rfl)) (hw _ (List.mem_of_getElem? (i := 72) rfl)) (hw _ (List.mem_of_getElem? (i := 9) rfl)) (hw _ (List.mem_of_getElem? (i := 74) rfl)) (by decide) E pd13 (argsL := []) (rest := []) rfl rfl rfl rfl (W := 0) (Nat.le_of_eq rfl) (by decide) (by decide) d16_1 (cells' := 0) (slots' := 0) rfl rfl (by decide) (by decide) ?_
    intro r6 h5 hQ
    obtain ⟨rfl, rfl⟩ := hQ
    show Go p l e _ s m _ below meth c _ _ _ _ h 0 0 (mkF m 4 #[.val (.ref a), .val (.int (0 : Int32))] [(.int (0 : Int32))])
    refine Go.ifY K (q := 16) (by decide) (by decide) d16_4 (show (0 : Int32) = (0 : Int32) from rfl) ?_
    refine Go.aloadN K (q := 17) rfl d16_16 rfl rfl ?_
    refine Go.getF K (q := 20) rfl (hw _ (List.mem_of_getElem? (i := 34) rfl)) Via.refl (Fv) d16_17 ?_
    refine Go.iloadN K (q := 21) rfl d16_20 rfl ?_
    refine Go.cS K (q := 24) rfl (y := (⟨"java/lang/StringUTF16", "charAt", "([BI)C"⟩ : MethodName)) (c_uch0 l Z a0 hw n0 h Z0 t k c0 c1 c2 c3 r0 r1 r2 r3 V SD SH SL fm rf Sf) (hw _ (List.mem_of_getElem? (i := 87) rfl)) (hw _ (List.mem_of_getElem? (i := 88) rfl)) (hw _ (List.mem_of_getElem? (i := 23) rfl)) (hw _ (List.mem_of_getElem? (i := 89) rfl)) (by decide) pd6 (argsL := [(.ref t), (.int (0 : Int32))]) (rest := []) rfl rfl rfl rfl (W := 0) (Nat.le_of_eq rfl) (by decide) (by decide) d16_21 (cells' := 0) (slots' := 0) rfl rfl (by decide) (by decide) ?_
    intro r8 h7 hQ
    obtain ⟨rfl, rfl⟩ := hQ
    show Go p l e _ s m _ below meth c _ _ _ _ h 0 0 (mkF m 24 #[.val (.ref a), .val (.int (0 : Int32))] [(.int c0)])
    exact Go.retN K (by simp) d16_24 (by decide) (by decide) (⟨congrArg (fun z => some (Value.int z)) (own_nc16 r0), rfl⟩)
set_option maxRecDepth 65536 in
set_option maxHeartbeats 40000000 in
theorem c_pci1 (l : Launch) (Z : State) (a0 : Array Value) (hw : ∀ d ∈ tables_1, d.before a0 Z = true) (n0 : Nat) (h : Heap) (Z0 : n0 ≤ h.size) (fm : Value) (rf : fm.isRef = true) :
    Ctr l Z n0 (⟨"jdk/internal/util/Preconditions", "checkIndex", "(IILjava/util/function/BiFunction;)I"⟩ : MethodName) jdk_41_method_11_code 3 (some .int) [] ({ frames := 0, cells := 0, slots := 0, locals := 0 } : Room) #[(.int (1 : Int32)), (.int (4 : Int32)), fm] h (fun v h' => v = some (.int 1) ∧ h = h') := by
  refine Ctr.body pn15 ?_
  intro p e s m below meth c K
  refine Go.entry (f' := (mkF m 0 #[.val (.int (1 : Int32)), .val (.int (4 : Int32)), .val fm] [])) (by rcases ref_cases rf with rfl | ⟨z, rfl⟩ <;> first | (simp [entryFrame, mkF, argsToLocals, Value.category]; done) | rfl) ?_
  refine Go.iloadN K (q := 1) rfl d20_0 rfl ?_
  refine Go.ifN K (q := 4) rfl d20_1 (show ¬ (1 : Int32) < (0 : Int32) from (by decide)) ?_
  refine Go.iloadN K (q := 5) rfl d20_4 rfl ?_
  refine Go.iloadN K (q := 6) rfl d20_5 rfl ?_
  refine Go.icmpY K (q := 16) (by decide) (by decide) d20_6 (show (1 : Int32) < (4 : Int32) from (by decide)) ?_
  refine Go.iloadN K (q := 17) rfl d20_16 rfl ?_
  exact Go.retI K d20_17 (by decide) (by decide) (⟨rfl, rfl⟩)
set_option maxRecDepth 65536 in
set_option maxHeartbeats 40000000 in
theorem c_sci1 (l : Launch) (Z : State) (a0 : Array Value) (hw : ∀ d ∈ tables_1, d.before a0 Z = true) (n0 : Nat) (h : Heap) (Z0 : n0 ≤ h.size) (fm : Value) (rf : fm.isRef = true) (Sf : Sta Z h "jdk/internal/util/Preconditions" "SIOOBE_FORMATTER" "Ljava/util/function/BiFunction;" fm) :
    Ctr l Z n0 (⟨"java/lang/String", "checkIndex", "(II)V"⟩ : MethodName) jdk_42_method_155_code 2 none [] ({ frames := 1, cells := 0, slots := 0, locals := 14 } : Room) #[(.int (1 : Int32)), (.int (4 : Int32))] h (fun v h' => v = none ∧ h = h') := by
  refine Ctr.body pn16 ?_
  intro p e s m below meth c K
  refine Go.entry (f' := (mkF m 0 #[.val (.int (1 : Int32)), .val (.int (4 : Int32))] [])) (by first | (simp [entryFrame, mkF, argsToLocals, Value.category]; done) | rfl) ?_
  refine Go.iloadN K (q := 1) rfl d19_0 rfl ?_
  refine Go.iloadN K (q := 2) rfl d19_1 rfl ?_
  refine Go.getS K (q := 5) rfl (hw _ (List.mem_of_getElem? (i := 82) rfl)) Via.refl (Sf) d19_2 ?_
  have cat1 : (fm : Value).category = 1 := by rcases ref_cases rf with rfl | ⟨z, rfl⟩ <;> rfl
  refine Go.cS K (q := 8) rfl (y := (⟨"jdk/internal/util/Preconditions", "checkIndex", "(IILjava/util/function/BiFunction;)I"⟩ : MethodName)) (c_pci1 l Z a0 hw n0 h Z0 fm rf) (hw _ (List.mem_of_getElem? (i := 84) rfl)) (hw _ (List.mem_of_getElem? (i := 85) rfl)) (hw _ (List.mem_of_getElem? (i := 83) rfl)) (hw _ (List.mem_of_getElem? (i := 86) rfl)) (by decide) pd9 (argsL := [(.int (1 : Int32)), (.int (4 : Int32)), fm]) (rest := []) rfl rfl rfl rfl (W := 0) (Nat.le_of_eq rfl) (by decide) (by decide) d19_5 (cells' := 0) (slots' := 0) rfl rfl (by decide) (by decide) ?_
  intro r2 h1 hQ
  obtain ⟨rfl, rfl⟩ := hQ
  show Go p l e _ s m _ below meth c _ _ _ _ h 0 0 (mkF m 8 #[.val (.int (1 : Int32)), .val (.int (4 : Int32))] [(.int (1 : Int32))])
  refine Go.pop K (q := 9) rfl d19_8 rfl ?_
  exact Go.retV K d19_9 (by decide) (by decide) (⟨rfl, rfl⟩)
set_option maxRecDepth 65536 in
set_option maxHeartbeats 40000000 in
theorem c_lch1 (l : Launch) (Z : State) (a0 : Array Value) (hw : ∀ d ∈ tables_1, d.before a0 Z = true) (n0 : Nat) (h : Heap) (Z0 : n0 ≤ h.size) (t : Addr) (k : ClassId) (c0 c1 c2 c3 : Int32) (r0 : ¬ c0 < 0 ∧ ¬ (65535 : Int32) < c0) (r1 : ¬ c1 < 0 ∧ ¬ (65535 : Int32) < c1) (r2 : ¬ c2 < 0 ∧ ¬ (65535 : Int32) < c2) (r3 : ¬ c3 < 0 ∧ ¬ (65535 : Int32) < c3)  (hh : ¬ (255 : Int32) < c0 ∧ ¬ (255 : Int32) < c1 ∧ ¬ (255 : Int32) < c2 ∧ ¬ (255 : Int32) < c3) (V : Arv Z h t k .byte (4 : Int32) [.int (own_b8 c0), .int (own_b8 c1), .int (own_b8 c2), .int (own_b8 c3)] (.int (0 : Int32))) (fm : Value) (rf : fm.isRef = true) (Sf : Sta Z h "jdk/internal/util/Preconditions" "SIOOBE_FORMATTER" "Ljava/util/function/BiFunction;" fm) :
    Ctr l Z n0 (⟨"java/lang/StringLatin1", "charAt", "([BI)C"⟩ : MethodName) jdk_43_method_2_code 2 (some .char) [] ({ frames := 2, cells := 0, slots := 0, locals := 27 } : Room) #[(.ref t), (.int (1 : Int32))] h (fun v h' => v = some (.int c1) ∧ h = h') := by
  refine Ctr.body pn17 ?_
  intro p e s m below meth c K
  refine Go.entry (f' := (mkF m 0 #[.val (.ref t), .val (.int (1 : Int32))] [])) (by first | (simp [entryFrame, mkF, argsToLocals, Value.category]; done) | rfl) ?_
  refine Go.iloadN K (q := 1) rfl d18_0 rfl ?_
  refine Go.aloadN K (q := 2) rfl d18_1 rfl rfl ?_
  refine Go.alen K (q := 3) rfl V d18_2 ?_
  refine Go.cS K (q := 6) rfl (y := (⟨"java/lang/String", "checkIndex", "(II)V"⟩ : MethodName)) (c_sci1 l Z a0 hw n0 h Z0 fm rf Sf) (hw _ (List.mem_of_getElem? (i := 79) rfl)) (hw _ (List.mem_of_getElem? (i := 80) rfl)) (hw _ (List.mem_of_getElem? (i := 9) rfl)) (hw _ (List.mem_of_getElem? (i := 81) rfl)) (by decide) pd10 (argsL := [(.int (1 : Int32)), (.int (4 : Int32))]) (rest := []) rfl rfl rfl rfl (W := 0) (Nat.le_of_eq rfl) (by decide) (by decide) d18_3 (cells' := 0) (slots' := 0) rfl rfl (by decide) (by decide) ?_
  intro r2 h1 hQ
  obtain ⟨rfl, rfl⟩ := hQ
  show Go p l e _ s m _ below meth c _ _ _ _ h 0 0 (mkF m 6 #[.val (.ref t), .val (.int (1 : Int32))] [])
  refine Go.aloadN K (q := 7) rfl d18_6 rfl rfl ?_
  refine Go.iloadN K (q := 8) rfl d18_7 rfl ?_
  refine Go.baload K (q := 9) rfl V d18_8 ⟨by decide, by decide⟩ (v := (.int (own_b8 c1))) rfl ?_
  refine Go.sipush K (q := 12) rfl (v := (255 : Int32)) (by decide) d18_9 ?_
  refine Go.iand K (q := 13) rfl d18_12 ?_
  refine Go.i2c K (q := 14) rfl d18_13 ?_
  exact Go.retN K (by simp) d18_14 (by decide) (by decide) (⟨congrArg (fun z => some (Value.int z)) (own_l8 r1 hh.2.1), rfl⟩)
set_option maxRecDepth 65536 in
set_option maxHeartbeats 40000000 in
theorem c_uci1 (l : Launch) (Z : State) (a0 : Array Value) (hw : ∀ d ∈ tables_1, d.before a0 Z = true) (n0 : Nat) (h : Heap) (Z0 : n0 ≤ h.size) (t : Addr) (k : ClassId) (vs : List Value) (V : Arv Z h t k .byte (8 : Int32) vs (.int (0 : Int32))) (fm : Value) (rf : fm.isRef = true) (Sf : Sta Z h "jdk/internal/util/Preconditions" "SIOOBE_FORMATTER" "Ljava/util/function/BiFunction;" fm) :
    Ctr l Z n0 (⟨"java/lang/StringUTF16", "checkIndex", "(I[B)V"⟩ : MethodName) jdk_52_method_91_code 2 none [] ({ frames := 2, cells := 0, slots := 0, locals := 27 } : Room) #[(.int (1 : Int32)), (.ref t)] h (fun v h' => v = none ∧ h = h') := by
  refine Ctr.body pn18 ?_
  intro p e s m below meth c K
  refine Go.entry (f' := (mkF m 0 #[.val (.int (1 : Int32)), .val (.ref t)] [])) (by first | (simp [entryFrame, mkF, argsToLocals, Value.category]; done) | rfl) ?_
  refine Go.iloadN K (q := 1) rfl d22_0 rfl ?_
  refine Go.aloadN K (q := 2) rfl d22_1 rfl rfl ?_
  refine Go.cS K (q := 5) rfl (y := (⟨"java/lang/StringUTF16", "length", "([B)I"⟩ : MethodName)) (c_ul l Z a0 hw n0 h Z0 t _ _ V) (hw _ (List.mem_of_getElem? (i := 93) rfl)) (hw _ (List.mem_of_getElem? (i := 94) rfl)) (hw _ (List.mem_of_getElem? (i := 23) rfl)) (hw _ (List.mem_of_getElem? (i := 95) rfl)) (by decide) pd11 (argsL := [(.ref t)]) (rest := [(.int (1 : Int32))]) rfl rfl rfl rfl (W := 1) (Nat.le_of_eq rfl) (by decide) (by decide) d22_2 (cells' := 0) (slots' := 0) rfl rfl (by decide) (by decide) ?_
  intro r2 h1 hQ
  obtain ⟨rfl, rfl⟩ := hQ
  show Go p l e _ s m _ below meth c _ _ _ _ h 0 0 (mkF m 5 #[.val (.int (1 : Int32)), .val (.ref t)] [(.int (4 : Int32)), (.int (1 : Int32))])
  refine Go.cS K (q := 8) rfl (y := (⟨"java/lang/String", "checkIndex", "(II)V"⟩ : MethodName)) (c_sci1 l Z a0 hw n0 h Z0 fm rf Sf) (hw _ (List.mem_of_getElem? (i := 96) rfl)) (hw _ (List.mem_of_getElem? (i := 80) rfl)) (hw _ (List.mem_of_getElem? (i := 9) rfl)) (hw _ (List.mem_of_getElem? (i := 81) rfl)) (by decide) pd10 (argsL := [(.int (1 : Int32)), (.int (4 : Int32))]) (rest := []) rfl rfl rfl rfl (W := 0) (Nat.le_of_eq rfl) (by decide) (by decide) d22_5 (cells' := 0) (slots' := 0) rfl rfl (by decide) (by decide) ?_
  intro r4 h3 hQ
  obtain ⟨rfl, rfl⟩ := hQ
  show Go p l e _ s m _ below meth c _ _ _ _ h 0 0 (mkF m 8 #[.val (.int (1 : Int32)), .val (.ref t)] [])
  exact Go.retV K d22_8 (by decide) (by decide) (⟨rfl, rfl⟩)
set_option maxRecDepth 65536 in
set_option maxHeartbeats 40000000 in
theorem c_uch1 (l : Launch) (Z : State) (a0 : Array Value) (hw : ∀ d ∈ tables_1, d.before a0 Z = true) (n0 : Nat) (h : Heap) (Z0 : n0 ≤ h.size) (t : Addr) (k : ClassId) (c0 c1 c2 c3 : Int32) (r0 : ¬ c0 < 0 ∧ ¬ (65535 : Int32) < c0) (r1 : ¬ c1 < 0 ∧ ¬ (65535 : Int32) < c1) (r2 : ¬ c2 < 0 ∧ ¬ (65535 : Int32) < c2) (r3 : ¬ c3 < 0 ∧ ¬ (65535 : Int32) < c3)  (V : Arv Z h t k .byte (8 : Int32) [.int (own_lo c0), .int (own_hi c0), .int (own_lo c1), .int (own_hi c1), .int (own_lo c2), .int (own_hi c2), .int (own_lo c3), .int (own_hi c3)] (.int (0 : Int32))) (SD : Sta Z h "java/lang/StringUTF16" "$assertionsDisabled" "Z" (.int 1)) (SH : Sta Z h "java/lang/StringUTF16" "HI_BYTE_SHIFT" "I" (.int 0)) (SL : Sta Z h "java/lang/StringUTF16" "LO_BYTE_SHIFT" "I" (.int 8)) (fm : Value) (rf : fm.isRef = true) (Sf : Sta Z h "jdk/internal/util/Preconditions" "SIOOBE_FORMATTER" "Ljava/util/function/BiFunction;" fm) :
    Ctr l Z n0 (⟨"java/lang/StringUTF16", "charAt", "([BI)C"⟩ : MethodName) jdk_52_method_83_code 2 (some .char) [] ({ frames := 3, cells := 0, slots := 0, locals := 40 } : Room) #[(.ref t), (.int (1 : Int32))] h (fun v h' => v = some (.int c1) ∧ h = h') := by
  refine Ctr.body pn19 ?_
  intro p e s m below meth c K
  refine Go.entry (f' := (mkF m 0 #[.val (.ref t), .val (.int (1 : Int32))] [])) (by first | (simp [entryFrame, mkF, argsToLocals, Value.category]; done) | rfl) ?_
  refine Go.iloadN K (q := 1) rfl d21_0 rfl ?_
  refine Go.aloadN K (q := 2) rfl d21_1 rfl rfl ?_
  refine Go.cS K (q := 5) rfl (y := (⟨"java/lang/StringUTF16", "checkIndex", "(I[B)V"⟩ : MethodName)) (c_uci1 l Z a0 hw n0 h Z0 t _ _ V fm rf Sf) (hw _ (List.mem_of_getElem? (i := 90) rfl)) (hw _ (List.mem_of_getElem? (i := 91) rfl)) (hw _ (List.mem_of_getElem? (i := 23) rfl)) (hw _ (List.mem_of_getElem? (i := 92) rfl)) (by decide) pd12 (argsL := [(.int (1 : Int32)), (.ref t)]) (rest := []) rfl rfl rfl rfl (W := 0) (Nat.le_of_eq rfl) (by decide) (by decide) d21_2 (cells' := 0) (slots' := 0) rfl rfl (by decide) (by decide) ?_
  intro r2 h1 hQ
  obtain ⟨rfl, rfl⟩ := hQ
  show Go p l e _ s m _ below meth c _ _ _ _ h 0 0 (mkF m 5 #[.val (.ref t), .val (.int (1 : Int32))] [])
  refine Go.aloadN K (q := 6) rfl d21_5 rfl rfl ?_
  refine Go.iloadN K (q := 7) rfl d21_6 rfl ?_
  refine Go.cS K (q := 10) rfl (y := (⟨"java/lang/StringUTF16", "getChar", "([BI)C"⟩ : MethodName)) (c_get1 l Z a0 hw n0 h Z0 t k c0 c1 c2 c3 r0 r1 r2 r3 V SD SH SL) (hw _ (List.mem_of_getElem? (i := 56) rfl)) (hw _ (List.mem_of_getElem? (i := 57) rfl)) (hw _ (List.mem_of_getElem? (i := 23) rfl)) (hw _ (List.mem_of_getElem? (i := 58) rfl)) (by decide) pd6 (argsL := [(.ref t), (.int (1 : Int32))]) (rest := []) rfl rfl rfl rfl (W := 0) (Nat.le_of_eq rfl) (by decide) (by decide) d21_7 (cells' := 0) (slots' := 0) rfl rfl (by decide) (by decide) ?_
  intro r4 h3 hQ
  obtain ⟨rfl, rfl⟩ := hQ
  show Go p l e _ s m _ below meth c _ _ _ _ h 0 0 (mkF m 10 #[.val (.ref t), .val (.int (1 : Int32))] [(.int c1)])
  exact Go.retN K (by simp) d21_10 (by decide) (by decide) (⟨congrArg (fun z => some (Value.int z)) (own_nc16 r1), rfl⟩)
set_option maxRecDepth 65536 in
set_option maxHeartbeats 40000000 in
theorem c_ch1 (l : Launch) (Z : State) (a0 : Array Value) (hw : ∀ d ∈ tables_1, d.before a0 Z = true) (n0 : Nat) (h : Heap) (Z0 : n0 ≤ h.size) (a : Addr) (c0 c1 c2 c3 : Int32) (r0 : ¬ c0 < 0 ∧ ¬ (65535 : Int32) < c0) (r1 : ¬ c1 < 0 ∧ ¬ (65535 : Int32) < c1) (r2 : ¬ c2 < 0 ∧ ¬ (65535 : Int32) < c2) (r3 : ¬ c3 < 0 ∧ ¬ (65535 : Int32) < c3)  (S0 : S4 Z h a c0 c1 c2 c3) (SD : Sta Z h "java/lang/StringUTF16" "$assertionsDisabled" "Z" (.int 1)) (SH : Sta Z h "java/lang/StringUTF16" "HI_BYTE_SHIFT" "I" (.int 0)) (SL : Sta Z h "java/lang/StringUTF16" "LO_BYTE_SHIFT" "I" (.int 8)) (z : Int32) (Sa : Sta Z h "java/lang/String" "COMPACT_STRINGS" "Z" (.int z)) (hz : ¬ z = 0) (fm : Value) (rf : fm.isRef = true) (Sf : Sta Z h "jdk/internal/util/Preconditions" "SIOOBE_FORMATTER" "Ljava/util/function/BiFunction;" fm) :
    Ctr l Z n0 (⟨"java/lang/String", "charAt", "(I)C"⟩ : MethodName) jdk_42_method_56_code 2 (some .char) [] ({ frames := 4, cells := 0, slots := 0, locals := 53 } : Room) #[(.ref a), (.int (1 : Int32))] h (fun v h' => v = some (.int c1) ∧ h = h') := by
  refine Ctr.body pn20 ?_
  intro p e s m below meth c K
  refine Go.entry (f' := (mkF m 0 #[.val (.ref a), .val (.int (1 : Int32))] [])) (by first | (simp [entryFrame, mkF, argsToLocals, Value.category]; done) | rfl) ?_
  refine Go.aloadN K (q := 1) rfl d16_0 rfl rfl ?_
  obtain ⟨t, k, E, Fv, ⟨Fc, hh, V⟩ | ⟨Fc, V⟩⟩ := S0
  · skip
    refine Go.cV K (q := 4) rfl (y := (⟨"java/lang/String", "isLatin1", "()Z"⟩ : MethodName)) (z := (⟨"java/lang/String", "isLatin1", "()Z"⟩ : MethodName)) (c_il0 l Z a0 hw n0 h Z0 a Fc z Sa hz) (hw _ (List.mem_of_getElem? (i := 70) rfl)) (hw _ (List.mem_of_getElem? (i := 71) rfl)) (nfS K (hw _ (List.mem_of_getElem? (i := 73) rfl))) (hw _ (List.mem_of_getElem? (i := 73) rfl)) (hw _ (List.mem_of_getElem? (i := 72) rfl)) (hw _ (List.mem_of_getElem? (i := 9) rfl)) (hw _ (List.mem_of_getElem? (i := 74) rfl)) (by decide) E pd13 (argsL := []) (rest := []) rfl rfl rfl rfl (W := 0) (Nat.le_of_eq rfl) (by decide) (by decide) d16_1 (cells' := 0) (slots' := 0) rfl rfl (by decide) (by decide) ?_
    intro r2 h1 hQ
    obtain ⟨rfl, rfl⟩ := hQ
    show Go p l e _ s m _ below meth c _ _ _ _ h 0 0 (mkF m 4 #[.val (.ref a), .val (.int (1 : Int32))] [(.int (1 : Int32))])
    refine Go.ifN K (q := 7) rfl d16_4 (show ¬ (1 : Int32) = (0 : Int32) from (by decide)) ?_
    refine Go.aloadN K (q := 8) rfl d16_7 rfl rfl ?_
    refine Go.getF K (q := 11) rfl (hw _ (List.mem_of_getElem? (i := 34) rfl)) Via.refl (Fv) d16_8 ?_
    refine Go.iloadN K (q := 12) rfl d16_11 rfl ?_
    refine Go.cS K (q := 15) rfl (y := (⟨"java/lang/StringLatin1", "charAt", "([BI)C"⟩ : MethodName)) (c_lch1 l Z a0 hw n0 h Z0 t k c0 c1 c2 c3 r0 r1 r2 r3 hh V fm rf Sf) (hw _ (List.mem_of_getElem? (i := 75) rfl)) (hw _ (List.mem_of_getElem? (i := 76) rfl)) (hw _ (List.mem_of_getElem? (i := 77) rfl)) (hw _ (List.mem_of_getElem? (i := 78) rfl)) (by decide) pd6 (argsL := [(.ref t), (.int (1 : Int32))]) (rest := []) rfl rfl rfl rfl (W := 0) (Nat.le_of_eq rfl) (by decide) (by decide) d16_12 (cells' := 0) (slots' := 0) rfl rfl (by decide) (by decide) ?_
    intro r4 h3 hQ
    obtain ⟨rfl, rfl⟩ := hQ
    show Go p l e _ s m _ below meth c _ _ _ _ h 0 0 (mkF m 15 #[.val (.ref a), .val (.int (1 : Int32))] [(.int c1)])
    exact Go.retN K (by simp) d16_15 (by decide) (by decide) (⟨congrArg (fun z => some (Value.int z)) (own_nc16 r1), rfl⟩)
  · skip
    refine Go.cV K (q := 4) rfl (y := (⟨"java/lang/String", "isLatin1", "()Z"⟩ : MethodName)) (z := (⟨"java/lang/String", "isLatin1", "()Z"⟩ : MethodName)) (c_il1 l Z a0 hw n0 h Z0 a Fc z Sa hz) (hw _ (List.mem_of_getElem? (i := 70) rfl)) (hw _ (List.mem_of_getElem? (i := 71) rfl)) (nfS K (hw _ (List.mem_of_getElem? (i := 73) rfl))) (hw _ (List.mem_of_getElem? (i := 73) rfl)) (hw _ (List.mem_of_getElem? (i := 72) rfl)) (hw _ (List.mem_of_getElem? (i := 9) rfl)) (hw _ (List.mem_of_getElem? (i := 74) rfl)) (by decide) E pd13 (argsL := []) (rest := []) rfl rfl rfl rfl (W := 0) (Nat.le_of_eq rfl) (by decide) (by decide) d16_1 (cells' := 0) (slots' := 0) rfl rfl (by decide) (by decide) ?_
    intro r6 h5 hQ
    obtain ⟨rfl, rfl⟩ := hQ
    show Go p l e _ s m _ below meth c _ _ _ _ h 0 0 (mkF m 4 #[.val (.ref a), .val (.int (1 : Int32))] [(.int (0 : Int32))])
    refine Go.ifY K (q := 16) (by decide) (by decide) d16_4 (show (0 : Int32) = (0 : Int32) from rfl) ?_
    refine Go.aloadN K (q := 17) rfl d16_16 rfl rfl ?_
    refine Go.getF K (q := 20) rfl (hw _ (List.mem_of_getElem? (i := 34) rfl)) Via.refl (Fv) d16_17 ?_
    refine Go.iloadN K (q := 21) rfl d16_20 rfl ?_
    refine Go.cS K (q := 24) rfl (y := (⟨"java/lang/StringUTF16", "charAt", "([BI)C"⟩ : MethodName)) (c_uch1 l Z a0 hw n0 h Z0 t k c0 c1 c2 c3 r0 r1 r2 r3 V SD SH SL fm rf Sf) (hw _ (List.mem_of_getElem? (i := 87) rfl)) (hw _ (List.mem_of_getElem? (i := 88) rfl)) (hw _ (List.mem_of_getElem? (i := 23) rfl)) (hw _ (List.mem_of_getElem? (i := 89) rfl)) (by decide) pd6 (argsL := [(.ref t), (.int (1 : Int32))]) (rest := []) rfl rfl rfl rfl (W := 0) (Nat.le_of_eq rfl) (by decide) (by decide) d16_21 (cells' := 0) (slots' := 0) rfl rfl (by decide) (by decide) ?_
    intro r8 h7 hQ
    obtain ⟨rfl, rfl⟩ := hQ
    show Go p l e _ s m _ below meth c _ _ _ _ h 0 0 (mkF m 24 #[.val (.ref a), .val (.int (1 : Int32))] [(.int c1)])
    exact Go.retN K (by simp) d16_24 (by decide) (by decide) (⟨congrArg (fun z => some (Value.int z)) (own_nc16 r1), rfl⟩)
set_option maxRecDepth 65536 in
set_option maxHeartbeats 40000000 in
theorem c_pci2 (l : Launch) (Z : State) (a0 : Array Value) (hw : ∀ d ∈ tables_1, d.before a0 Z = true) (n0 : Nat) (h : Heap) (Z0 : n0 ≤ h.size) (fm : Value) (rf : fm.isRef = true) :
    Ctr l Z n0 (⟨"jdk/internal/util/Preconditions", "checkIndex", "(IILjava/util/function/BiFunction;)I"⟩ : MethodName) jdk_41_method_11_code 3 (some .int) [] ({ frames := 0, cells := 0, slots := 0, locals := 0 } : Room) #[(.int (2 : Int32)), (.int (4 : Int32)), fm] h (fun v h' => v = some (.int 2) ∧ h = h') := by
  refine Ctr.body pn15 ?_
  intro p e s m below meth c K
  refine Go.entry (f' := (mkF m 0 #[.val (.int (2 : Int32)), .val (.int (4 : Int32)), .val fm] [])) (by rcases ref_cases rf with rfl | ⟨z, rfl⟩ <;> first | (simp [entryFrame, mkF, argsToLocals, Value.category]; done) | rfl) ?_
  refine Go.iloadN K (q := 1) rfl d20_0 rfl ?_
  refine Go.ifN K (q := 4) rfl d20_1 (show ¬ (2 : Int32) < (0 : Int32) from (by decide)) ?_
  refine Go.iloadN K (q := 5) rfl d20_4 rfl ?_
  refine Go.iloadN K (q := 6) rfl d20_5 rfl ?_
  refine Go.icmpY K (q := 16) (by decide) (by decide) d20_6 (show (2 : Int32) < (4 : Int32) from (by decide)) ?_
  refine Go.iloadN K (q := 17) rfl d20_16 rfl ?_
  exact Go.retI K d20_17 (by decide) (by decide) (⟨rfl, rfl⟩)
set_option maxRecDepth 65536 in
set_option maxHeartbeats 40000000 in
theorem c_sci2 (l : Launch) (Z : State) (a0 : Array Value) (hw : ∀ d ∈ tables_1, d.before a0 Z = true) (n0 : Nat) (h : Heap) (Z0 : n0 ≤ h.size) (fm : Value) (rf : fm.isRef = true) (Sf : Sta Z h "jdk/internal/util/Preconditions" "SIOOBE_FORMATTER" "Ljava/util/function/BiFunction;" fm) :
    Ctr l Z n0 (⟨"java/lang/String", "checkIndex", "(II)V"⟩ : MethodName) jdk_42_method_155_code 2 none [] ({ frames := 1, cells := 0, slots := 0, locals := 14 } : Room) #[(.int (2 : Int32)), (.int (4 : Int32))] h (fun v h' => v = none ∧ h = h') := by
  refine Ctr.body pn16 ?_
  intro p e s m below meth c K
  refine Go.entry (f' := (mkF m 0 #[.val (.int (2 : Int32)), .val (.int (4 : Int32))] [])) (by first | (simp [entryFrame, mkF, argsToLocals, Value.category]; done) | rfl) ?_
  refine Go.iloadN K (q := 1) rfl d19_0 rfl ?_
  refine Go.iloadN K (q := 2) rfl d19_1 rfl ?_
  refine Go.getS K (q := 5) rfl (hw _ (List.mem_of_getElem? (i := 82) rfl)) Via.refl (Sf) d19_2 ?_
  have cat1 : (fm : Value).category = 1 := by rcases ref_cases rf with rfl | ⟨z, rfl⟩ <;> rfl
  refine Go.cS K (q := 8) rfl (y := (⟨"jdk/internal/util/Preconditions", "checkIndex", "(IILjava/util/function/BiFunction;)I"⟩ : MethodName)) (c_pci2 l Z a0 hw n0 h Z0 fm rf) (hw _ (List.mem_of_getElem? (i := 84) rfl)) (hw _ (List.mem_of_getElem? (i := 85) rfl)) (hw _ (List.mem_of_getElem? (i := 83) rfl)) (hw _ (List.mem_of_getElem? (i := 86) rfl)) (by decide) pd9 (argsL := [(.int (2 : Int32)), (.int (4 : Int32)), fm]) (rest := []) rfl rfl rfl rfl (W := 0) (Nat.le_of_eq rfl) (by decide) (by decide) d19_5 (cells' := 0) (slots' := 0) rfl rfl (by decide) (by decide) ?_
  intro r2 h1 hQ
  obtain ⟨rfl, rfl⟩ := hQ
  show Go p l e _ s m _ below meth c _ _ _ _ h 0 0 (mkF m 8 #[.val (.int (2 : Int32)), .val (.int (4 : Int32))] [(.int (2 : Int32))])
  refine Go.pop K (q := 9) rfl d19_8 rfl ?_
  exact Go.retV K d19_9 (by decide) (by decide) (⟨rfl, rfl⟩)
set_option maxRecDepth 65536 in
set_option maxHeartbeats 40000000 in
theorem c_lch2 (l : Launch) (Z : State) (a0 : Array Value) (hw : ∀ d ∈ tables_1, d.before a0 Z = true) (n0 : Nat) (h : Heap) (Z0 : n0 ≤ h.size) (t : Addr) (k : ClassId) (c0 c1 c2 c3 : Int32) (r0 : ¬ c0 < 0 ∧ ¬ (65535 : Int32) < c0) (r1 : ¬ c1 < 0 ∧ ¬ (65535 : Int32) < c1) (r2 : ¬ c2 < 0 ∧ ¬ (65535 : Int32) < c2) (r3 : ¬ c3 < 0 ∧ ¬ (65535 : Int32) < c3)  (hh : ¬ (255 : Int32) < c0 ∧ ¬ (255 : Int32) < c1 ∧ ¬ (255 : Int32) < c2 ∧ ¬ (255 : Int32) < c3) (V : Arv Z h t k .byte (4 : Int32) [.int (own_b8 c0), .int (own_b8 c1), .int (own_b8 c2), .int (own_b8 c3)] (.int (0 : Int32))) (fm : Value) (rf : fm.isRef = true) (Sf : Sta Z h "jdk/internal/util/Preconditions" "SIOOBE_FORMATTER" "Ljava/util/function/BiFunction;" fm) :
    Ctr l Z n0 (⟨"java/lang/StringLatin1", "charAt", "([BI)C"⟩ : MethodName) jdk_43_method_2_code 2 (some .char) [] ({ frames := 2, cells := 0, slots := 0, locals := 27 } : Room) #[(.ref t), (.int (2 : Int32))] h (fun v h' => v = some (.int c2) ∧ h = h') := by
  refine Ctr.body pn17 ?_
  intro p e s m below meth c K
  refine Go.entry (f' := (mkF m 0 #[.val (.ref t), .val (.int (2 : Int32))] [])) (by first | (simp [entryFrame, mkF, argsToLocals, Value.category]; done) | rfl) ?_
  refine Go.iloadN K (q := 1) rfl d18_0 rfl ?_
  refine Go.aloadN K (q := 2) rfl d18_1 rfl rfl ?_
  refine Go.alen K (q := 3) rfl V d18_2 ?_
  refine Go.cS K (q := 6) rfl (y := (⟨"java/lang/String", "checkIndex", "(II)V"⟩ : MethodName)) (c_sci2 l Z a0 hw n0 h Z0 fm rf Sf) (hw _ (List.mem_of_getElem? (i := 79) rfl)) (hw _ (List.mem_of_getElem? (i := 80) rfl)) (hw _ (List.mem_of_getElem? (i := 9) rfl)) (hw _ (List.mem_of_getElem? (i := 81) rfl)) (by decide) pd10 (argsL := [(.int (2 : Int32)), (.int (4 : Int32))]) (rest := []) rfl rfl rfl rfl (W := 0) (Nat.le_of_eq rfl) (by decide) (by decide) d18_3 (cells' := 0) (slots' := 0) rfl rfl (by decide) (by decide) ?_
  intro r2 h1 hQ
  obtain ⟨rfl, rfl⟩ := hQ
  show Go p l e _ s m _ below meth c _ _ _ _ h 0 0 (mkF m 6 #[.val (.ref t), .val (.int (2 : Int32))] [])
  refine Go.aloadN K (q := 7) rfl d18_6 rfl rfl ?_
  refine Go.iloadN K (q := 8) rfl d18_7 rfl ?_
  refine Go.baload K (q := 9) rfl V d18_8 ⟨by decide, by decide⟩ (v := (.int (own_b8 c2))) rfl ?_
  refine Go.sipush K (q := 12) rfl (v := (255 : Int32)) (by decide) d18_9 ?_
  refine Go.iand K (q := 13) rfl d18_12 ?_
  refine Go.i2c K (q := 14) rfl d18_13 ?_
  exact Go.retN K (by simp) d18_14 (by decide) (by decide) (⟨congrArg (fun z => some (Value.int z)) (own_l8 r2 hh.2.2.1), rfl⟩)
set_option maxRecDepth 65536 in
set_option maxHeartbeats 40000000 in
theorem c_uci2 (l : Launch) (Z : State) (a0 : Array Value) (hw : ∀ d ∈ tables_1, d.before a0 Z = true) (n0 : Nat) (h : Heap) (Z0 : n0 ≤ h.size) (t : Addr) (k : ClassId) (vs : List Value) (V : Arv Z h t k .byte (8 : Int32) vs (.int (0 : Int32))) (fm : Value) (rf : fm.isRef = true) (Sf : Sta Z h "jdk/internal/util/Preconditions" "SIOOBE_FORMATTER" "Ljava/util/function/BiFunction;" fm) :
    Ctr l Z n0 (⟨"java/lang/StringUTF16", "checkIndex", "(I[B)V"⟩ : MethodName) jdk_52_method_91_code 2 none [] ({ frames := 2, cells := 0, slots := 0, locals := 27 } : Room) #[(.int (2 : Int32)), (.ref t)] h (fun v h' => v = none ∧ h = h') := by
  refine Ctr.body pn18 ?_
  intro p e s m below meth c K
  refine Go.entry (f' := (mkF m 0 #[.val (.int (2 : Int32)), .val (.ref t)] [])) (by first | (simp [entryFrame, mkF, argsToLocals, Value.category]; done) | rfl) ?_
  refine Go.iloadN K (q := 1) rfl d22_0 rfl ?_
  refine Go.aloadN K (q := 2) rfl d22_1 rfl rfl ?_
  refine Go.cS K (q := 5) rfl (y := (⟨"java/lang/StringUTF16", "length", "([B)I"⟩ : MethodName)) (c_ul l Z a0 hw n0 h Z0 t _ _ V) (hw _ (List.mem_of_getElem? (i := 93) rfl)) (hw _ (List.mem_of_getElem? (i := 94) rfl)) (hw _ (List.mem_of_getElem? (i := 23) rfl)) (hw _ (List.mem_of_getElem? (i := 95) rfl)) (by decide) pd11 (argsL := [(.ref t)]) (rest := [(.int (2 : Int32))]) rfl rfl rfl rfl (W := 1) (Nat.le_of_eq rfl) (by decide) (by decide) d22_2 (cells' := 0) (slots' := 0) rfl rfl (by decide) (by decide) ?_
  intro r2 h1 hQ
  obtain ⟨rfl, rfl⟩ := hQ
  show Go p l e _ s m _ below meth c _ _ _ _ h 0 0 (mkF m 5 #[.val (.int (2 : Int32)), .val (.ref t)] [(.int (4 : Int32)), (.int (2 : Int32))])
  refine Go.cS K (q := 8) rfl (y := (⟨"java/lang/String", "checkIndex", "(II)V"⟩ : MethodName)) (c_sci2 l Z a0 hw n0 h Z0 fm rf Sf) (hw _ (List.mem_of_getElem? (i := 96) rfl)) (hw _ (List.mem_of_getElem? (i := 80) rfl)) (hw _ (List.mem_of_getElem? (i := 9) rfl)) (hw _ (List.mem_of_getElem? (i := 81) rfl)) (by decide) pd10 (argsL := [(.int (2 : Int32)), (.int (4 : Int32))]) (rest := []) rfl rfl rfl rfl (W := 0) (Nat.le_of_eq rfl) (by decide) (by decide) d22_5 (cells' := 0) (slots' := 0) rfl rfl (by decide) (by decide) ?_
  intro r4 h3 hQ
  obtain ⟨rfl, rfl⟩ := hQ
  show Go p l e _ s m _ below meth c _ _ _ _ h 0 0 (mkF m 8 #[.val (.int (2 : Int32)), .val (.ref t)] [])
  exact Go.retV K d22_8 (by decide) (by decide) (⟨rfl, rfl⟩)
set_option maxRecDepth 65536 in
set_option maxHeartbeats 40000000 in
theorem c_uch2 (l : Launch) (Z : State) (a0 : Array Value) (hw : ∀ d ∈ tables_1, d.before a0 Z = true) (n0 : Nat) (h : Heap) (Z0 : n0 ≤ h.size) (t : Addr) (k : ClassId) (c0 c1 c2 c3 : Int32) (r0 : ¬ c0 < 0 ∧ ¬ (65535 : Int32) < c0) (r1 : ¬ c1 < 0 ∧ ¬ (65535 : Int32) < c1) (r2 : ¬ c2 < 0 ∧ ¬ (65535 : Int32) < c2) (r3 : ¬ c3 < 0 ∧ ¬ (65535 : Int32) < c3)  (V : Arv Z h t k .byte (8 : Int32) [.int (own_lo c0), .int (own_hi c0), .int (own_lo c1), .int (own_hi c1), .int (own_lo c2), .int (own_hi c2), .int (own_lo c3), .int (own_hi c3)] (.int (0 : Int32))) (SD : Sta Z h "java/lang/StringUTF16" "$assertionsDisabled" "Z" (.int 1)) (SH : Sta Z h "java/lang/StringUTF16" "HI_BYTE_SHIFT" "I" (.int 0)) (SL : Sta Z h "java/lang/StringUTF16" "LO_BYTE_SHIFT" "I" (.int 8)) (fm : Value) (rf : fm.isRef = true) (Sf : Sta Z h "jdk/internal/util/Preconditions" "SIOOBE_FORMATTER" "Ljava/util/function/BiFunction;" fm) :
    Ctr l Z n0 (⟨"java/lang/StringUTF16", "charAt", "([BI)C"⟩ : MethodName) jdk_52_method_83_code 2 (some .char) [] ({ frames := 3, cells := 0, slots := 0, locals := 40 } : Room) #[(.ref t), (.int (2 : Int32))] h (fun v h' => v = some (.int c2) ∧ h = h') := by
  refine Ctr.body pn19 ?_
  intro p e s m below meth c K
  refine Go.entry (f' := (mkF m 0 #[.val (.ref t), .val (.int (2 : Int32))] [])) (by first | (simp [entryFrame, mkF, argsToLocals, Value.category]; done) | rfl) ?_
  refine Go.iloadN K (q := 1) rfl d21_0 rfl ?_
  refine Go.aloadN K (q := 2) rfl d21_1 rfl rfl ?_
  refine Go.cS K (q := 5) rfl (y := (⟨"java/lang/StringUTF16", "checkIndex", "(I[B)V"⟩ : MethodName)) (c_uci2 l Z a0 hw n0 h Z0 t _ _ V fm rf Sf) (hw _ (List.mem_of_getElem? (i := 90) rfl)) (hw _ (List.mem_of_getElem? (i := 91) rfl)) (hw _ (List.mem_of_getElem? (i := 23) rfl)) (hw _ (List.mem_of_getElem? (i := 92) rfl)) (by decide) pd12 (argsL := [(.int (2 : Int32)), (.ref t)]) (rest := []) rfl rfl rfl rfl (W := 0) (Nat.le_of_eq rfl) (by decide) (by decide) d21_2 (cells' := 0) (slots' := 0) rfl rfl (by decide) (by decide) ?_
  intro r2 h1 hQ
  obtain ⟨rfl, rfl⟩ := hQ
  show Go p l e _ s m _ below meth c _ _ _ _ h 0 0 (mkF m 5 #[.val (.ref t), .val (.int (2 : Int32))] [])
  refine Go.aloadN K (q := 6) rfl d21_5 rfl rfl ?_
  refine Go.iloadN K (q := 7) rfl d21_6 rfl ?_
  refine Go.cS K (q := 10) rfl (y := (⟨"java/lang/StringUTF16", "getChar", "([BI)C"⟩ : MethodName)) (c_get2 l Z a0 hw n0 h Z0 t k c0 c1 c2 c3 r0 r1 r2 r3 V SD SH SL) (hw _ (List.mem_of_getElem? (i := 56) rfl)) (hw _ (List.mem_of_getElem? (i := 57) rfl)) (hw _ (List.mem_of_getElem? (i := 23) rfl)) (hw _ (List.mem_of_getElem? (i := 58) rfl)) (by decide) pd6 (argsL := [(.ref t), (.int (2 : Int32))]) (rest := []) rfl rfl rfl rfl (W := 0) (Nat.le_of_eq rfl) (by decide) (by decide) d21_7 (cells' := 0) (slots' := 0) rfl rfl (by decide) (by decide) ?_
  intro r4 h3 hQ
  obtain ⟨rfl, rfl⟩ := hQ
  show Go p l e _ s m _ below meth c _ _ _ _ h 0 0 (mkF m 10 #[.val (.ref t), .val (.int (2 : Int32))] [(.int c2)])
  exact Go.retN K (by simp) d21_10 (by decide) (by decide) (⟨congrArg (fun z => some (Value.int z)) (own_nc16 r2), rfl⟩)
set_option maxRecDepth 65536 in
set_option maxHeartbeats 40000000 in
theorem c_ch2 (l : Launch) (Z : State) (a0 : Array Value) (hw : ∀ d ∈ tables_1, d.before a0 Z = true) (n0 : Nat) (h : Heap) (Z0 : n0 ≤ h.size) (a : Addr) (c0 c1 c2 c3 : Int32) (r0 : ¬ c0 < 0 ∧ ¬ (65535 : Int32) < c0) (r1 : ¬ c1 < 0 ∧ ¬ (65535 : Int32) < c1) (r2 : ¬ c2 < 0 ∧ ¬ (65535 : Int32) < c2) (r3 : ¬ c3 < 0 ∧ ¬ (65535 : Int32) < c3)  (S0 : S4 Z h a c0 c1 c2 c3) (SD : Sta Z h "java/lang/StringUTF16" "$assertionsDisabled" "Z" (.int 1)) (SH : Sta Z h "java/lang/StringUTF16" "HI_BYTE_SHIFT" "I" (.int 0)) (SL : Sta Z h "java/lang/StringUTF16" "LO_BYTE_SHIFT" "I" (.int 8)) (z : Int32) (Sa : Sta Z h "java/lang/String" "COMPACT_STRINGS" "Z" (.int z)) (hz : ¬ z = 0) (fm : Value) (rf : fm.isRef = true) (Sf : Sta Z h "jdk/internal/util/Preconditions" "SIOOBE_FORMATTER" "Ljava/util/function/BiFunction;" fm) :
    Ctr l Z n0 (⟨"java/lang/String", "charAt", "(I)C"⟩ : MethodName) jdk_42_method_56_code 2 (some .char) [] ({ frames := 4, cells := 0, slots := 0, locals := 53 } : Room) #[(.ref a), (.int (2 : Int32))] h (fun v h' => v = some (.int c2) ∧ h = h') := by
  refine Ctr.body pn20 ?_
  intro p e s m below meth c K
  refine Go.entry (f' := (mkF m 0 #[.val (.ref a), .val (.int (2 : Int32))] [])) (by first | (simp [entryFrame, mkF, argsToLocals, Value.category]; done) | rfl) ?_
  refine Go.aloadN K (q := 1) rfl d16_0 rfl rfl ?_
  obtain ⟨t, k, E, Fv, ⟨Fc, hh, V⟩ | ⟨Fc, V⟩⟩ := S0
  · skip
    refine Go.cV K (q := 4) rfl (y := (⟨"java/lang/String", "isLatin1", "()Z"⟩ : MethodName)) (z := (⟨"java/lang/String", "isLatin1", "()Z"⟩ : MethodName)) (c_il0 l Z a0 hw n0 h Z0 a Fc z Sa hz) (hw _ (List.mem_of_getElem? (i := 70) rfl)) (hw _ (List.mem_of_getElem? (i := 71) rfl)) (nfS K (hw _ (List.mem_of_getElem? (i := 73) rfl))) (hw _ (List.mem_of_getElem? (i := 73) rfl)) (hw _ (List.mem_of_getElem? (i := 72) rfl)) (hw _ (List.mem_of_getElem? (i := 9) rfl)) (hw _ (List.mem_of_getElem? (i := 74) rfl)) (by decide) E pd13 (argsL := []) (rest := []) rfl rfl rfl rfl (W := 0) (Nat.le_of_eq rfl) (by decide) (by decide) d16_1 (cells' := 0) (slots' := 0) rfl rfl (by decide) (by decide) ?_
    intro r2 h1 hQ
    obtain ⟨rfl, rfl⟩ := hQ
    show Go p l e _ s m _ below meth c _ _ _ _ h 0 0 (mkF m 4 #[.val (.ref a), .val (.int (2 : Int32))] [(.int (1 : Int32))])
    refine Go.ifN K (q := 7) rfl d16_4 (show ¬ (1 : Int32) = (0 : Int32) from (by decide)) ?_
    refine Go.aloadN K (q := 8) rfl d16_7 rfl rfl ?_
    refine Go.getF K (q := 11) rfl (hw _ (List.mem_of_getElem? (i := 34) rfl)) Via.refl (Fv) d16_8 ?_
    refine Go.iloadN K (q := 12) rfl d16_11 rfl ?_
    refine Go.cS K (q := 15) rfl (y := (⟨"java/lang/StringLatin1", "charAt", "([BI)C"⟩ : MethodName)) (c_lch2 l Z a0 hw n0 h Z0 t k c0 c1 c2 c3 r0 r1 r2 r3 hh V fm rf Sf) (hw _ (List.mem_of_getElem? (i := 75) rfl)) (hw _ (List.mem_of_getElem? (i := 76) rfl)) (hw _ (List.mem_of_getElem? (i := 77) rfl)) (hw _ (List.mem_of_getElem? (i := 78) rfl)) (by decide) pd6 (argsL := [(.ref t), (.int (2 : Int32))]) (rest := []) rfl rfl rfl rfl (W := 0) (Nat.le_of_eq rfl) (by decide) (by decide) d16_12 (cells' := 0) (slots' := 0) rfl rfl (by decide) (by decide) ?_
    intro r4 h3 hQ
    obtain ⟨rfl, rfl⟩ := hQ
    show Go p l e _ s m _ below meth c _ _ _ _ h 0 0 (mkF m 15 #[.val (.ref a), .val (.int (2 : Int32))] [(.int c2)])
    exact Go.retN K (by simp) d16_15 (by decide) (by decide) (⟨congrArg (fun z => some (Value.int z)) (own_nc16 r2), rfl⟩)
  · skip
    refine Go.cV K (q := 4) rfl (y := (⟨"java/lang/String", "isLatin1", "()Z"⟩ : MethodName)) (z := (⟨"java/lang/String", "isLatin1", "()Z"⟩ : MethodName)) (c_il1 l Z a0 hw n0 h Z0 a Fc z Sa hz) (hw _ (List.mem_of_getElem? (i := 70) rfl)) (hw _ (List.mem_of_getElem? (i := 71) rfl)) (nfS K (hw _ (List.mem_of_getElem? (i := 73) rfl))) (hw _ (List.mem_of_getElem? (i := 73) rfl)) (hw _ (List.mem_of_getElem? (i := 72) rfl)) (hw _ (List.mem_of_getElem? (i := 9) rfl)) (hw _ (List.mem_of_getElem? (i := 74) rfl)) (by decide) E pd13 (argsL := []) (rest := []) rfl rfl rfl rfl (W := 0) (Nat.le_of_eq rfl) (by decide) (by decide) d16_1 (cells' := 0) (slots' := 0) rfl rfl (by decide) (by decide) ?_
    intro r6 h5 hQ
    obtain ⟨rfl, rfl⟩ := hQ
    show Go p l e _ s m _ below meth c _ _ _ _ h 0 0 (mkF m 4 #[.val (.ref a), .val (.int (2 : Int32))] [(.int (0 : Int32))])
    refine Go.ifY K (q := 16) (by decide) (by decide) d16_4 (show (0 : Int32) = (0 : Int32) from rfl) ?_
    refine Go.aloadN K (q := 17) rfl d16_16 rfl rfl ?_
    refine Go.getF K (q := 20) rfl (hw _ (List.mem_of_getElem? (i := 34) rfl)) Via.refl (Fv) d16_17 ?_
    refine Go.iloadN K (q := 21) rfl d16_20 rfl ?_
    refine Go.cS K (q := 24) rfl (y := (⟨"java/lang/StringUTF16", "charAt", "([BI)C"⟩ : MethodName)) (c_uch2 l Z a0 hw n0 h Z0 t k c0 c1 c2 c3 r0 r1 r2 r3 V SD SH SL fm rf Sf) (hw _ (List.mem_of_getElem? (i := 87) rfl)) (hw _ (List.mem_of_getElem? (i := 88) rfl)) (hw _ (List.mem_of_getElem? (i := 23) rfl)) (hw _ (List.mem_of_getElem? (i := 89) rfl)) (by decide) pd6 (argsL := [(.ref t), (.int (2 : Int32))]) (rest := []) rfl rfl rfl rfl (W := 0) (Nat.le_of_eq rfl) (by decide) (by decide) d16_21 (cells' := 0) (slots' := 0) rfl rfl (by decide) (by decide) ?_
    intro r8 h7 hQ
    obtain ⟨rfl, rfl⟩ := hQ
    show Go p l e _ s m _ below meth c _ _ _ _ h 0 0 (mkF m 24 #[.val (.ref a), .val (.int (2 : Int32))] [(.int c2)])
    exact Go.retN K (by simp) d16_24 (by decide) (by decide) (⟨congrArg (fun z => some (Value.int z)) (own_nc16 r2), rfl⟩)
set_option maxRecDepth 65536 in
set_option maxHeartbeats 40000000 in
theorem c_pci3 (l : Launch) (Z : State) (a0 : Array Value) (hw : ∀ d ∈ tables_1, d.before a0 Z = true) (n0 : Nat) (h : Heap) (Z0 : n0 ≤ h.size) (fm : Value) (rf : fm.isRef = true) :
    Ctr l Z n0 (⟨"jdk/internal/util/Preconditions", "checkIndex", "(IILjava/util/function/BiFunction;)I"⟩ : MethodName) jdk_41_method_11_code 3 (some .int) [] ({ frames := 0, cells := 0, slots := 0, locals := 0 } : Room) #[(.int (3 : Int32)), (.int (4 : Int32)), fm] h (fun v h' => v = some (.int 3) ∧ h = h') := by
  refine Ctr.body pn15 ?_
  intro p e s m below meth c K
  refine Go.entry (f' := (mkF m 0 #[.val (.int (3 : Int32)), .val (.int (4 : Int32)), .val fm] [])) (by rcases ref_cases rf with rfl | ⟨z, rfl⟩ <;> first | (simp [entryFrame, mkF, argsToLocals, Value.category]; done) | rfl) ?_
  refine Go.iloadN K (q := 1) rfl d20_0 rfl ?_
  refine Go.ifN K (q := 4) rfl d20_1 (show ¬ (3 : Int32) < (0 : Int32) from (by decide)) ?_
  refine Go.iloadN K (q := 5) rfl d20_4 rfl ?_
  refine Go.iloadN K (q := 6) rfl d20_5 rfl ?_
  refine Go.icmpY K (q := 16) (by decide) (by decide) d20_6 (show (3 : Int32) < (4 : Int32) from (by decide)) ?_
  refine Go.iloadN K (q := 17) rfl d20_16 rfl ?_
  exact Go.retI K d20_17 (by decide) (by decide) (⟨rfl, rfl⟩)
set_option maxRecDepth 65536 in
set_option maxHeartbeats 40000000 in
theorem c_sci3 (l : Launch) (Z : State) (a0 : Array Value) (hw : ∀ d ∈ tables_1, d.before a0 Z = true) (n0 : Nat) (h : Heap) (Z0 : n0 ≤ h.size) (fm : Value) (rf : fm.isRef = true) (Sf : Sta Z h "jdk/internal/util/Preconditions" "SIOOBE_FORMATTER" "Ljava/util/function/BiFunction;" fm) :
    Ctr l Z n0 (⟨"java/lang/String", "checkIndex", "(II)V"⟩ : MethodName) jdk_42_method_155_code 2 none [] ({ frames := 1, cells := 0, slots := 0, locals := 14 } : Room) #[(.int (3 : Int32)), (.int (4 : Int32))] h (fun v h' => v = none ∧ h = h') := by
  refine Ctr.body pn16 ?_
  intro p e s m below meth c K
  refine Go.entry (f' := (mkF m 0 #[.val (.int (3 : Int32)), .val (.int (4 : Int32))] [])) (by first | (simp [entryFrame, mkF, argsToLocals, Value.category]; done) | rfl) ?_
  refine Go.iloadN K (q := 1) rfl d19_0 rfl ?_
  refine Go.iloadN K (q := 2) rfl d19_1 rfl ?_
  refine Go.getS K (q := 5) rfl (hw _ (List.mem_of_getElem? (i := 82) rfl)) Via.refl (Sf) d19_2 ?_
  have cat1 : (fm : Value).category = 1 := by rcases ref_cases rf with rfl | ⟨z, rfl⟩ <;> rfl
  refine Go.cS K (q := 8) rfl (y := (⟨"jdk/internal/util/Preconditions", "checkIndex", "(IILjava/util/function/BiFunction;)I"⟩ : MethodName)) (c_pci3 l Z a0 hw n0 h Z0 fm rf) (hw _ (List.mem_of_getElem? (i := 84) rfl)) (hw _ (List.mem_of_getElem? (i := 85) rfl)) (hw _ (List.mem_of_getElem? (i := 83) rfl)) (hw _ (List.mem_of_getElem? (i := 86) rfl)) (by decide) pd9 (argsL := [(.int (3 : Int32)), (.int (4 : Int32)), fm]) (rest := []) rfl rfl rfl rfl (W := 0) (Nat.le_of_eq rfl) (by decide) (by decide) d19_5 (cells' := 0) (slots' := 0) rfl rfl (by decide) (by decide) ?_
  intro r2 h1 hQ
  obtain ⟨rfl, rfl⟩ := hQ
  show Go p l e _ s m _ below meth c _ _ _ _ h 0 0 (mkF m 8 #[.val (.int (3 : Int32)), .val (.int (4 : Int32))] [(.int (3 : Int32))])
  refine Go.pop K (q := 9) rfl d19_8 rfl ?_
  exact Go.retV K d19_9 (by decide) (by decide) (⟨rfl, rfl⟩)
set_option maxRecDepth 65536 in
set_option maxHeartbeats 40000000 in
theorem c_lch3 (l : Launch) (Z : State) (a0 : Array Value) (hw : ∀ d ∈ tables_1, d.before a0 Z = true) (n0 : Nat) (h : Heap) (Z0 : n0 ≤ h.size) (t : Addr) (k : ClassId) (c0 c1 c2 c3 : Int32) (r0 : ¬ c0 < 0 ∧ ¬ (65535 : Int32) < c0) (r1 : ¬ c1 < 0 ∧ ¬ (65535 : Int32) < c1) (r2 : ¬ c2 < 0 ∧ ¬ (65535 : Int32) < c2) (r3 : ¬ c3 < 0 ∧ ¬ (65535 : Int32) < c3)  (hh : ¬ (255 : Int32) < c0 ∧ ¬ (255 : Int32) < c1 ∧ ¬ (255 : Int32) < c2 ∧ ¬ (255 : Int32) < c3) (V : Arv Z h t k .byte (4 : Int32) [.int (own_b8 c0), .int (own_b8 c1), .int (own_b8 c2), .int (own_b8 c3)] (.int (0 : Int32))) (fm : Value) (rf : fm.isRef = true) (Sf : Sta Z h "jdk/internal/util/Preconditions" "SIOOBE_FORMATTER" "Ljava/util/function/BiFunction;" fm) :
    Ctr l Z n0 (⟨"java/lang/StringLatin1", "charAt", "([BI)C"⟩ : MethodName) jdk_43_method_2_code 2 (some .char) [] ({ frames := 2, cells := 0, slots := 0, locals := 27 } : Room) #[(.ref t), (.int (3 : Int32))] h (fun v h' => v = some (.int c3) ∧ h = h') := by
  refine Ctr.body pn17 ?_
  intro p e s m below meth c K
  refine Go.entry (f' := (mkF m 0 #[.val (.ref t), .val (.int (3 : Int32))] [])) (by first | (simp [entryFrame, mkF, argsToLocals, Value.category]; done) | rfl) ?_
  refine Go.iloadN K (q := 1) rfl d18_0 rfl ?_
  refine Go.aloadN K (q := 2) rfl d18_1 rfl rfl ?_
  refine Go.alen K (q := 3) rfl V d18_2 ?_
  refine Go.cS K (q := 6) rfl (y := (⟨"java/lang/String", "checkIndex", "(II)V"⟩ : MethodName)) (c_sci3 l Z a0 hw n0 h Z0 fm rf Sf) (hw _ (List.mem_of_getElem? (i := 79) rfl)) (hw _ (List.mem_of_getElem? (i := 80) rfl)) (hw _ (List.mem_of_getElem? (i := 9) rfl)) (hw _ (List.mem_of_getElem? (i := 81) rfl)) (by decide) pd10 (argsL := [(.int (3 : Int32)), (.int (4 : Int32))]) (rest := []) rfl rfl rfl rfl (W := 0) (Nat.le_of_eq rfl) (by decide) (by decide) d18_3 (cells' := 0) (slots' := 0) rfl rfl (by decide) (by decide) ?_
  intro r2 h1 hQ
  obtain ⟨rfl, rfl⟩ := hQ
  show Go p l e _ s m _ below meth c _ _ _ _ h 0 0 (mkF m 6 #[.val (.ref t), .val (.int (3 : Int32))] [])
  refine Go.aloadN K (q := 7) rfl d18_6 rfl rfl ?_
  refine Go.iloadN K (q := 8) rfl d18_7 rfl ?_
  refine Go.baload K (q := 9) rfl V d18_8 ⟨by decide, by decide⟩ (v := (.int (own_b8 c3))) rfl ?_
  refine Go.sipush K (q := 12) rfl (v := (255 : Int32)) (by decide) d18_9 ?_
  refine Go.iand K (q := 13) rfl d18_12 ?_
  refine Go.i2c K (q := 14) rfl d18_13 ?_
  exact Go.retN K (by simp) d18_14 (by decide) (by decide) (⟨congrArg (fun z => some (Value.int z)) (own_l8 r3 hh.2.2.2), rfl⟩)
set_option maxRecDepth 65536 in
set_option maxHeartbeats 40000000 in
theorem c_uci3 (l : Launch) (Z : State) (a0 : Array Value) (hw : ∀ d ∈ tables_1, d.before a0 Z = true) (n0 : Nat) (h : Heap) (Z0 : n0 ≤ h.size) (t : Addr) (k : ClassId) (vs : List Value) (V : Arv Z h t k .byte (8 : Int32) vs (.int (0 : Int32))) (fm : Value) (rf : fm.isRef = true) (Sf : Sta Z h "jdk/internal/util/Preconditions" "SIOOBE_FORMATTER" "Ljava/util/function/BiFunction;" fm) :
    Ctr l Z n0 (⟨"java/lang/StringUTF16", "checkIndex", "(I[B)V"⟩ : MethodName) jdk_52_method_91_code 2 none [] ({ frames := 2, cells := 0, slots := 0, locals := 27 } : Room) #[(.int (3 : Int32)), (.ref t)] h (fun v h' => v = none ∧ h = h') := by
  refine Ctr.body pn18 ?_
  intro p e s m below meth c K
  refine Go.entry (f' := (mkF m 0 #[.val (.int (3 : Int32)), .val (.ref t)] [])) (by first | (simp [entryFrame, mkF, argsToLocals, Value.category]; done) | rfl) ?_
  refine Go.iloadN K (q := 1) rfl d22_0 rfl ?_
  refine Go.aloadN K (q := 2) rfl d22_1 rfl rfl ?_
  refine Go.cS K (q := 5) rfl (y := (⟨"java/lang/StringUTF16", "length", "([B)I"⟩ : MethodName)) (c_ul l Z a0 hw n0 h Z0 t _ _ V) (hw _ (List.mem_of_getElem? (i := 93) rfl)) (hw _ (List.mem_of_getElem? (i := 94) rfl)) (hw _ (List.mem_of_getElem? (i := 23) rfl)) (hw _ (List.mem_of_getElem? (i := 95) rfl)) (by decide) pd11 (argsL := [(.ref t)]) (rest := [(.int (3 : Int32))]) rfl rfl rfl rfl (W := 1) (Nat.le_of_eq rfl) (by decide) (by decide) d22_2 (cells' := 0) (slots' := 0) rfl rfl (by decide) (by decide) ?_
  intro r2 h1 hQ
  obtain ⟨rfl, rfl⟩ := hQ
  show Go p l e _ s m _ below meth c _ _ _ _ h 0 0 (mkF m 5 #[.val (.int (3 : Int32)), .val (.ref t)] [(.int (4 : Int32)), (.int (3 : Int32))])
  refine Go.cS K (q := 8) rfl (y := (⟨"java/lang/String", "checkIndex", "(II)V"⟩ : MethodName)) (c_sci3 l Z a0 hw n0 h Z0 fm rf Sf) (hw _ (List.mem_of_getElem? (i := 96) rfl)) (hw _ (List.mem_of_getElem? (i := 80) rfl)) (hw _ (List.mem_of_getElem? (i := 9) rfl)) (hw _ (List.mem_of_getElem? (i := 81) rfl)) (by decide) pd10 (argsL := [(.int (3 : Int32)), (.int (4 : Int32))]) (rest := []) rfl rfl rfl rfl (W := 0) (Nat.le_of_eq rfl) (by decide) (by decide) d22_5 (cells' := 0) (slots' := 0) rfl rfl (by decide) (by decide) ?_
  intro r4 h3 hQ
  obtain ⟨rfl, rfl⟩ := hQ
  show Go p l e _ s m _ below meth c _ _ _ _ h 0 0 (mkF m 8 #[.val (.int (3 : Int32)), .val (.ref t)] [])
  exact Go.retV K d22_8 (by decide) (by decide) (⟨rfl, rfl⟩)
set_option maxRecDepth 65536 in
set_option maxHeartbeats 40000000 in
theorem c_uch3 (l : Launch) (Z : State) (a0 : Array Value) (hw : ∀ d ∈ tables_1, d.before a0 Z = true) (n0 : Nat) (h : Heap) (Z0 : n0 ≤ h.size) (t : Addr) (k : ClassId) (c0 c1 c2 c3 : Int32) (r0 : ¬ c0 < 0 ∧ ¬ (65535 : Int32) < c0) (r1 : ¬ c1 < 0 ∧ ¬ (65535 : Int32) < c1) (r2 : ¬ c2 < 0 ∧ ¬ (65535 : Int32) < c2) (r3 : ¬ c3 < 0 ∧ ¬ (65535 : Int32) < c3)  (V : Arv Z h t k .byte (8 : Int32) [.int (own_lo c0), .int (own_hi c0), .int (own_lo c1), .int (own_hi c1), .int (own_lo c2), .int (own_hi c2), .int (own_lo c3), .int (own_hi c3)] (.int (0 : Int32))) (SD : Sta Z h "java/lang/StringUTF16" "$assertionsDisabled" "Z" (.int 1)) (SH : Sta Z h "java/lang/StringUTF16" "HI_BYTE_SHIFT" "I" (.int 0)) (SL : Sta Z h "java/lang/StringUTF16" "LO_BYTE_SHIFT" "I" (.int 8)) (fm : Value) (rf : fm.isRef = true) (Sf : Sta Z h "jdk/internal/util/Preconditions" "SIOOBE_FORMATTER" "Ljava/util/function/BiFunction;" fm) :
    Ctr l Z n0 (⟨"java/lang/StringUTF16", "charAt", "([BI)C"⟩ : MethodName) jdk_52_method_83_code 2 (some .char) [] ({ frames := 3, cells := 0, slots := 0, locals := 40 } : Room) #[(.ref t), (.int (3 : Int32))] h (fun v h' => v = some (.int c3) ∧ h = h') := by
  refine Ctr.body pn19 ?_
  intro p e s m below meth c K
  refine Go.entry (f' := (mkF m 0 #[.val (.ref t), .val (.int (3 : Int32))] [])) (by first | (simp [entryFrame, mkF, argsToLocals, Value.category]; done) | rfl) ?_
  refine Go.iloadN K (q := 1) rfl d21_0 rfl ?_
  refine Go.aloadN K (q := 2) rfl d21_1 rfl rfl ?_
  refine Go.cS K (q := 5) rfl (y := (⟨"java/lang/StringUTF16", "checkIndex", "(I[B)V"⟩ : MethodName)) (c_uci3 l Z a0 hw n0 h Z0 t _ _ V fm rf Sf) (hw _ (List.mem_of_getElem? (i := 90) rfl)) (hw _ (List.mem_of_getElem? (i := 91) rfl)) (hw _ (List.mem_of_getElem? (i := 23) rfl)) (hw _ (List.mem_of_getElem? (i := 92) rfl)) (by decide) pd12 (argsL := [(.int (3 : Int32)), (.ref t)]) (rest := []) rfl rfl rfl rfl (W := 0) (Nat.le_of_eq rfl) (by decide) (by decide) d21_2 (cells' := 0) (slots' := 0) rfl rfl (by decide) (by decide) ?_
  intro r2 h1 hQ
  obtain ⟨rfl, rfl⟩ := hQ
  show Go p l e _ s m _ below meth c _ _ _ _ h 0 0 (mkF m 5 #[.val (.ref t), .val (.int (3 : Int32))] [])
  refine Go.aloadN K (q := 6) rfl d21_5 rfl rfl ?_
  refine Go.iloadN K (q := 7) rfl d21_6 rfl ?_
  refine Go.cS K (q := 10) rfl (y := (⟨"java/lang/StringUTF16", "getChar", "([BI)C"⟩ : MethodName)) (c_get3 l Z a0 hw n0 h Z0 t k c0 c1 c2 c3 r0 r1 r2 r3 V SD SH SL) (hw _ (List.mem_of_getElem? (i := 56) rfl)) (hw _ (List.mem_of_getElem? (i := 57) rfl)) (hw _ (List.mem_of_getElem? (i := 23) rfl)) (hw _ (List.mem_of_getElem? (i := 58) rfl)) (by decide) pd6 (argsL := [(.ref t), (.int (3 : Int32))]) (rest := []) rfl rfl rfl rfl (W := 0) (Nat.le_of_eq rfl) (by decide) (by decide) d21_7 (cells' := 0) (slots' := 0) rfl rfl (by decide) (by decide) ?_
  intro r4 h3 hQ
  obtain ⟨rfl, rfl⟩ := hQ
  show Go p l e _ s m _ below meth c _ _ _ _ h 0 0 (mkF m 10 #[.val (.ref t), .val (.int (3 : Int32))] [(.int c3)])
  exact Go.retN K (by simp) d21_10 (by decide) (by decide) (⟨congrArg (fun z => some (Value.int z)) (own_nc16 r3), rfl⟩)
set_option maxRecDepth 65536 in
set_option maxHeartbeats 40000000 in
theorem c_ch3 (l : Launch) (Z : State) (a0 : Array Value) (hw : ∀ d ∈ tables_1, d.before a0 Z = true) (n0 : Nat) (h : Heap) (Z0 : n0 ≤ h.size) (a : Addr) (c0 c1 c2 c3 : Int32) (r0 : ¬ c0 < 0 ∧ ¬ (65535 : Int32) < c0) (r1 : ¬ c1 < 0 ∧ ¬ (65535 : Int32) < c1) (r2 : ¬ c2 < 0 ∧ ¬ (65535 : Int32) < c2) (r3 : ¬ c3 < 0 ∧ ¬ (65535 : Int32) < c3)  (S0 : S4 Z h a c0 c1 c2 c3) (SD : Sta Z h "java/lang/StringUTF16" "$assertionsDisabled" "Z" (.int 1)) (SH : Sta Z h "java/lang/StringUTF16" "HI_BYTE_SHIFT" "I" (.int 0)) (SL : Sta Z h "java/lang/StringUTF16" "LO_BYTE_SHIFT" "I" (.int 8)) (z : Int32) (Sa : Sta Z h "java/lang/String" "COMPACT_STRINGS" "Z" (.int z)) (hz : ¬ z = 0) (fm : Value) (rf : fm.isRef = true) (Sf : Sta Z h "jdk/internal/util/Preconditions" "SIOOBE_FORMATTER" "Ljava/util/function/BiFunction;" fm) :
    Ctr l Z n0 (⟨"java/lang/String", "charAt", "(I)C"⟩ : MethodName) jdk_42_method_56_code 2 (some .char) [] ({ frames := 4, cells := 0, slots := 0, locals := 53 } : Room) #[(.ref a), (.int (3 : Int32))] h (fun v h' => v = some (.int c3) ∧ h = h') := by
  refine Ctr.body pn20 ?_
  intro p e s m below meth c K
  refine Go.entry (f' := (mkF m 0 #[.val (.ref a), .val (.int (3 : Int32))] [])) (by first | (simp [entryFrame, mkF, argsToLocals, Value.category]; done) | rfl) ?_
  refine Go.aloadN K (q := 1) rfl d16_0 rfl rfl ?_
  obtain ⟨t, k, E, Fv, ⟨Fc, hh, V⟩ | ⟨Fc, V⟩⟩ := S0
  · skip
    refine Go.cV K (q := 4) rfl (y := (⟨"java/lang/String", "isLatin1", "()Z"⟩ : MethodName)) (z := (⟨"java/lang/String", "isLatin1", "()Z"⟩ : MethodName)) (c_il0 l Z a0 hw n0 h Z0 a Fc z Sa hz) (hw _ (List.mem_of_getElem? (i := 70) rfl)) (hw _ (List.mem_of_getElem? (i := 71) rfl)) (nfS K (hw _ (List.mem_of_getElem? (i := 73) rfl))) (hw _ (List.mem_of_getElem? (i := 73) rfl)) (hw _ (List.mem_of_getElem? (i := 72) rfl)) (hw _ (List.mem_of_getElem? (i := 9) rfl)) (hw _ (List.mem_of_getElem? (i := 74) rfl)) (by decide) E pd13 (argsL := []) (rest := []) rfl rfl rfl rfl (W := 0) (Nat.le_of_eq rfl) (by decide) (by decide) d16_1 (cells' := 0) (slots' := 0) rfl rfl (by decide) (by decide) ?_
    intro r2 h1 hQ
    obtain ⟨rfl, rfl⟩ := hQ
    show Go p l e _ s m _ below meth c _ _ _ _ h 0 0 (mkF m 4 #[.val (.ref a), .val (.int (3 : Int32))] [(.int (1 : Int32))])
    refine Go.ifN K (q := 7) rfl d16_4 (show ¬ (1 : Int32) = (0 : Int32) from (by decide)) ?_
    refine Go.aloadN K (q := 8) rfl d16_7 rfl rfl ?_
    refine Go.getF K (q := 11) rfl (hw _ (List.mem_of_getElem? (i := 34) rfl)) Via.refl (Fv) d16_8 ?_
    refine Go.iloadN K (q := 12) rfl d16_11 rfl ?_
    refine Go.cS K (q := 15) rfl (y := (⟨"java/lang/StringLatin1", "charAt", "([BI)C"⟩ : MethodName)) (c_lch3 l Z a0 hw n0 h Z0 t k c0 c1 c2 c3 r0 r1 r2 r3 hh V fm rf Sf) (hw _ (List.mem_of_getElem? (i := 75) rfl)) (hw _ (List.mem_of_getElem? (i := 76) rfl)) (hw _ (List.mem_of_getElem? (i := 77) rfl)) (hw _ (List.mem_of_getElem? (i := 78) rfl)) (by decide) pd6 (argsL := [(.ref t), (.int (3 : Int32))]) (rest := []) rfl rfl rfl rfl (W := 0) (Nat.le_of_eq rfl) (by decide) (by decide) d16_12 (cells' := 0) (slots' := 0) rfl rfl (by decide) (by decide) ?_
    intro r4 h3 hQ
    obtain ⟨rfl, rfl⟩ := hQ
    show Go p l e _ s m _ below meth c _ _ _ _ h 0 0 (mkF m 15 #[.val (.ref a), .val (.int (3 : Int32))] [(.int c3)])
    exact Go.retN K (by simp) d16_15 (by decide) (by decide) (⟨congrArg (fun z => some (Value.int z)) (own_nc16 r3), rfl⟩)
  · skip
    refine Go.cV K (q := 4) rfl (y := (⟨"java/lang/String", "isLatin1", "()Z"⟩ : MethodName)) (z := (⟨"java/lang/String", "isLatin1", "()Z"⟩ : MethodName)) (c_il1 l Z a0 hw n0 h Z0 a Fc z Sa hz) (hw _ (List.mem_of_getElem? (i := 70) rfl)) (hw _ (List.mem_of_getElem? (i := 71) rfl)) (nfS K (hw _ (List.mem_of_getElem? (i := 73) rfl))) (hw _ (List.mem_of_getElem? (i := 73) rfl)) (hw _ (List.mem_of_getElem? (i := 72) rfl)) (hw _ (List.mem_of_getElem? (i := 9) rfl)) (hw _ (List.mem_of_getElem? (i := 74) rfl)) (by decide) E pd13 (argsL := []) (rest := []) rfl rfl rfl rfl (W := 0) (Nat.le_of_eq rfl) (by decide) (by decide) d16_1 (cells' := 0) (slots' := 0) rfl rfl (by decide) (by decide) ?_
    intro r6 h5 hQ
    obtain ⟨rfl, rfl⟩ := hQ
    show Go p l e _ s m _ below meth c _ _ _ _ h 0 0 (mkF m 4 #[.val (.ref a), .val (.int (3 : Int32))] [(.int (0 : Int32))])
    refine Go.ifY K (q := 16) (by decide) (by decide) d16_4 (show (0 : Int32) = (0 : Int32) from rfl) ?_
    refine Go.aloadN K (q := 17) rfl d16_16 rfl rfl ?_
    refine Go.getF K (q := 20) rfl (hw _ (List.mem_of_getElem? (i := 34) rfl)) Via.refl (Fv) d16_17 ?_
    refine Go.iloadN K (q := 21) rfl d16_20 rfl ?_
    refine Go.cS K (q := 24) rfl (y := (⟨"java/lang/StringUTF16", "charAt", "([BI)C"⟩ : MethodName)) (c_uch3 l Z a0 hw n0 h Z0 t k c0 c1 c2 c3 r0 r1 r2 r3 V SD SH SL fm rf Sf) (hw _ (List.mem_of_getElem? (i := 87) rfl)) (hw _ (List.mem_of_getElem? (i := 88) rfl)) (hw _ (List.mem_of_getElem? (i := 23) rfl)) (hw _ (List.mem_of_getElem? (i := 89) rfl)) (by decide) pd6 (argsL := [(.ref t), (.int (3 : Int32))]) (rest := []) rfl rfl rfl rfl (W := 0) (Nat.le_of_eq rfl) (by decide) (by decide) d16_21 (cells' := 0) (slots' := 0) rfl rfl (by decide) (by decide) ?_
    intro r8 h7 hQ
    obtain ⟨rfl, rfl⟩ := hQ
    show Go p l e _ s m _ below meth c _ _ _ _ h 0 0 (mkF m 24 #[.val (.ref a), .val (.int (3 : Int32))] [(.int c3)])
    exact Go.retN K (by simp) d16_24 (by decide) (by decide) (⟨congrArg (fun z => some (Value.int z)) (own_nc16 r3), rfl⟩)
set_option maxRecDepth 65536 in
set_option maxHeartbeats 40000000 in
theorem c_is (l : Launch) (Z : State) (a0 : Array Value) (hw : ∀ d ∈ tables_1, d.before a0 Z = true) (n0 : Nat) (h : Heap) (Z0 : n0 ≤ h.size) (a : Addr) (f t : Int32) (c0 c1 c2 c3 : Int32) (r0 : ¬ c0 < 0 ∧ ¬ (65535 : Int32) < c0) (r1 : ¬ c1 < 0 ∧ ¬ (65535 : Int32) < c1) (r2 : ¬ c2 < 0 ∧ ¬ (65535 : Int32) < c2) (r3 : ¬ c3 < 0 ∧ ¬ (65535 : Int32) < c3)  (hf : f = 0 ∨ f = 1 ∨ f = 2 ∨ f = 3 ∨ f = 4) (h4 : ¬ (4 : Int32) < t) (S0 : S4 Z h a c0 c1 c2 c3) (SD : Sta Z h "java/lang/StringUTF16" "$assertionsDisabled" "Z" (.int 1)) (SH : Sta Z h "java/lang/StringUTF16" "HI_BYTE_SHIFT" "I" (.int 0)) (SL : Sta Z h "java/lang/StringUTF16" "LO_BYTE_SHIFT" "I" (.int 8)) (z : Int32) (Sa : Sta Z h "java/lang/String" "COMPACT_STRINGS" "Z" (.int z)) (hz : ¬ z = 0) (fm : Value) (rf : fm.isRef = true) (Sf : Sta Z h "jdk/internal/util/Preconditions" "SIOOBE_FORMATTER" "Ljava/util/function/BiFunction;" fm) :
    Ctr l Z n0 (⟨"com/example/overplan/overplan/util/PlainNumber", "isDigits", "(Ljava/lang/String;II)Z"⟩ : MethodName) prog_73_method_5_code 5 (some .boolean) [] ({ frames := 5, cells := 0, slots := 0, locals := 66 } : Room) #[(.ref a), (.int f), (.int t)] h (fun v h' => v = some (.int (own_is f t c0 c1 c2 c3)) ∧ h = h') := by
  refine Ctr.body pn21 ?_
  intro p e s m below meth c K
  refine Go.entry (f' := (mkF m 0 #[.val (.ref a), .val (.int f), .val (.int t), .unset, .unset] [])) (by first | (simp [entryFrame, mkF, argsToLocals, Value.category]; done) | rfl) ?_
  have hx : Exa Z h a "java/lang/String" := by obtain ⟨_, _, q, _⟩ := S0; exact q
  have key4 : ∀ (ff : Int32) (x4 : Slot), (x4 = .unset ∨ ∃ y, x4 = .val (.int y)) → Go p l e ({ frames := 5, cells := 0, slots := 0, locals := 66 } : Room) s m #[(.ref a), (.int f), (.int t)] below meth c n0 ({ frames := 5, cells := 0, slots := 0, locals := 66 } : Room).cells ({ frames := 5, cells := 0, slots := 0, locals := 66 } : Room).slots (fun v h' => v = some (.int (own_fr4 t c0 c1 c2 c3)) ∧ h = h') h 0 0 (mkF m 9 #[.val (.ref a), .val (.int ff), .val (.int t), .val (.int (4 : Int32)), x4] []) := by
    intro ff x4 hx4
    rcases hx4 with rfl | ⟨y4, rfl⟩
    · skip
      show Go p l e _ s m _ below meth c _ _ _ _ h 0 0 (mkF m 9 #[.val (.ref a), .val (.int ff), .val (.int t), .val (.int (4 : Int32)), .unset] [])
      refine Go.iloadN K (q := 10) rfl d8_9 rfl ?_
      refine Go.iloadN K (q := 11) rfl d8_10 rfl ?_
      refine Go.icmpY K (q := 43) (by decide) (by decide) d8_11 (show ¬ (4 : Int32) < t from h4) ?_
      refine Go.iconst K (q := 44) rfl (v := (1 : Int32)) (by decide) d8_43 ?_
      exact Go.retN K (by simp) d8_44 (by decide) (by decide) (⟨rfl, rfl⟩)
    · skip
      show Go p l e _ s m _ below meth c _ _ _ _ h 0 0 (mkF m 9 #[.val (.ref a), .val (.int ff), .val (.int t), .val (.int (4 : Int32)), .val (.int y4)] [])
      refine Go.iloadN K (q := 10) rfl d8_9 rfl ?_
      refine Go.iloadN K (q := 11) rfl d8_10 rfl ?_
      refine Go.icmpY K (q := 43) (by decide) (by decide) d8_11 (show ¬ (4 : Int32) < t from h4) ?_
      refine Go.iconst K (q := 44) rfl (v := (1 : Int32)) (by decide) d8_43 ?_
      exact Go.retN K (by simp) d8_44 (by decide) (by decide) (⟨rfl, rfl⟩)
  have key3 : ∀ (ff : Int32) (x4 : Slot), (x4 = .unset ∨ ∃ y, x4 = .val (.int y)) → Go p l e ({ frames := 5, cells := 0, slots := 0, locals := 66 } : Room) s m #[(.ref a), (.int f), (.int t)] below meth c n0 ({ frames := 5, cells := 0, slots := 0, locals := 66 } : Room).cells ({ frames := 5, cells := 0, slots := 0, locals := 66 } : Room).slots (fun v h' => v = some (.int (own_fr3 t c0 c1 c2 c3)) ∧ h = h') h 0 0 (mkF m 9 #[.val (.ref a), .val (.int ff), .val (.int t), .val (.int (3 : Int32)), x4] []) := by
    intro ff x4 hx4
    rcases hx4 with rfl | ⟨y4, rfl⟩
    · skip
      show Go p l e _ s m _ below meth c _ _ _ _ h 0 0 (mkF m 9 #[.val (.ref a), .val (.int ff), .val (.int t), .val (.int (3 : Int32)), .unset] [])
      refine Go.iloadN K (q := 10) rfl d8_9 rfl ?_
      refine Go.iloadN K (q := 11) rfl d8_10 rfl ?_
      refine Go.icmp K (q := 43) (q' := 14) (by decide) (by decide) rfl d8_11 (fun (g : ¬ (3 : Int32) < t) => ?_) (fun (g : (3 : Int32) < t) => ?_)
      · skip
        refine Go.iconst K (q := 44) rfl (v := (1 : Int32)) (by decide) d8_43 ?_
        exact Go.retN K (by simp) d8_44 (by decide) (by decide) (⟨by rw [own_fr3, if_neg (by simpa using g)]; rfl, rfl⟩)
      · skip
        refine Go.aloadN K (q := 15) rfl d8_14 rfl rfl ?_
        refine Go.iloadN K (q := 16) rfl d8_15 rfl ?_
        refine Go.cV K (q := 19) rfl (y := (⟨"java/lang/String", "charAt", "(I)C"⟩ : MethodName)) (z := (⟨"java/lang/String", "charAt", "(I)C"⟩ : MethodName)) (c_ch3 l Z a0 hw n0 h Z0 a c0 c1 c2 c3 r0 r1 r2 r3 S0 SD SH SL z Sa hz fm rf Sf) (hw _ (List.mem_of_getElem? (i := 65) rfl)) (hw _ (List.mem_of_getElem? (i := 66) rfl)) (nfS K (hw _ (List.mem_of_getElem? (i := 68) rfl))) (hw _ (List.mem_of_getElem? (i := 68) rfl)) (hw _ (List.mem_of_getElem? (i := 67) rfl)) (hw _ (List.mem_of_getElem? (i := 9) rfl)) (hw _ (List.mem_of_getElem? (i := 69) rfl)) (by decide) hx pd14 (argsL := [(.int (3 : Int32))]) (rest := []) rfl rfl rfl rfl (W := 0) (Nat.le_of_eq rfl) (by decide) (by decide) d8_16 (cells' := 0) (slots' := 0) rfl rfl (by decide) (by decide) ?_
        intro r2 h1 hQ
        obtain ⟨rfl, rfl⟩ := hQ
        show Go p l e _ s m _ below meth c _ _ _ _ h 0 0 (mkF m 19 #[.val (.ref a), .val (.int ff), .val (.int t), .val (.int (3 : Int32)), .unset] [(.int c3)])
        refine Go.istore K (q := 21) rfl (L' := #[.val (.ref a), .val (.int ff), .val (.int t), .val (.int (3 : Int32)), .val (.int c3)]) d8_19 rfl ?_
        refine Go.iload K (q := 23) rfl d8_21 rfl ?_
        refine Go.bipush K (q := 25) rfl (v := (48 : Int32)) (by decide) d8_23 ?_
        refine Go.icmp K (q := 35) (q' := 28) (by decide) (by decide) rfl d8_25 (fun (d0 : c3 < (48 : Int32)) => ?_) (fun (d0 : ¬ c3 < (48 : Int32)) => ?_)
        · skip
          refine Go.iconst K (q := 36) rfl (v := (0 : Int32)) (by decide) d8_35 ?_
          exact Go.retN K (by simp) d8_36 (by decide) (by decide) (⟨by rw [own_fr3, if_pos g, own_dg, if_pos d0]; rfl, rfl⟩)
        · skip
          refine Go.iload K (q := 30) rfl d8_28 rfl ?_
          refine Go.bipush K (q := 32) rfl (v := (57 : Int32)) (by decide) d8_30 ?_
          refine Go.icmp K (q := 37) (q' := 35) (by decide) (by decide) rfl d8_32 (fun (d1 : ¬ (57 : Int32) < c3) => ?_) (fun (d1 : (57 : Int32) < c3) => ?_)
          · skip
            refine Go.iinc K (q := 40) rfl (L' := #[.val (.ref a), .val (.int ff), .val (.int t), .val (.int ((3 : Int32) + (1 : Int32))), .val (.int c3)]) (y := (1 : Int32)) (by decide) d8_37 rfl rfl ?_
            refine Go.goto K (q := 9) (by decide) (by decide) d8_40 ?_
            show Go p l e _ s m _ below meth c _ _ _ _ h 0 0 (mkF m 9 #[.val (.ref a), .val (.int ff), .val (.int t), .val (.int (4 : Int32)), .val (.int c3)] [])
            have e : own_fr3 t c0 c1 c2 c3 = own_fr4 t c0 c1 c2 c3 := by rw [own_fr3, if_pos g, own_dg, if_neg d0, if_neg d1]; rfl
            rw [e]
            exact key4 _ _ (Or.inr ⟨_, rfl⟩)
          · skip
            refine Go.iconst K (q := 36) rfl (v := (0 : Int32)) (by decide) d8_35 ?_
            exact Go.retN K (by simp) d8_36 (by decide) (by decide) (⟨by rw [own_fr3, if_pos g, own_dg, if_neg d0, if_pos d1]; rfl, rfl⟩)
    · skip
      show Go p l e _ s m _ below meth c _ _ _ _ h 0 0 (mkF m 9 #[.val (.ref a), .val (.int ff), .val (.int t), .val (.int (3 : Int32)), .val (.int y4)] [])
      refine Go.iloadN K (q := 10) rfl d8_9 rfl ?_
      refine Go.iloadN K (q := 11) rfl d8_10 rfl ?_
      refine Go.icmp K (q := 43) (q' := 14) (by decide) (by decide) rfl d8_11 (fun (g : ¬ (3 : Int32) < t) => ?_) (fun (g : (3 : Int32) < t) => ?_)
      · skip
        refine Go.iconst K (q := 44) rfl (v := (1 : Int32)) (by decide) d8_43 ?_
        exact Go.retN K (by simp) d8_44 (by decide) (by decide) (⟨by rw [own_fr3, if_neg (by simpa using g)]; rfl, rfl⟩)
      · skip
        refine Go.aloadN K (q := 15) rfl d8_14 rfl rfl ?_
        refine Go.iloadN K (q := 16) rfl d8_15 rfl ?_
        refine Go.cV K (q := 19) rfl (y := (⟨"java/lang/String", "charAt", "(I)C"⟩ : MethodName)) (z := (⟨"java/lang/String", "charAt", "(I)C"⟩ : MethodName)) (c_ch3 l Z a0 hw n0 h Z0 a c0 c1 c2 c3 r0 r1 r2 r3 S0 SD SH SL z Sa hz fm rf Sf) (hw _ (List.mem_of_getElem? (i := 65) rfl)) (hw _ (List.mem_of_getElem? (i := 66) rfl)) (nfS K (hw _ (List.mem_of_getElem? (i := 68) rfl))) (hw _ (List.mem_of_getElem? (i := 68) rfl)) (hw _ (List.mem_of_getElem? (i := 67) rfl)) (hw _ (List.mem_of_getElem? (i := 9) rfl)) (hw _ (List.mem_of_getElem? (i := 69) rfl)) (by decide) hx pd14 (argsL := [(.int (3 : Int32))]) (rest := []) rfl rfl rfl rfl (W := 0) (Nat.le_of_eq rfl) (by decide) (by decide) d8_16 (cells' := 0) (slots' := 0) rfl rfl (by decide) (by decide) ?_
        intro r4 h3 hQ
        obtain ⟨rfl, rfl⟩ := hQ
        show Go p l e _ s m _ below meth c _ _ _ _ h 0 0 (mkF m 19 #[.val (.ref a), .val (.int ff), .val (.int t), .val (.int (3 : Int32)), .val (.int y4)] [(.int c3)])
        refine Go.istore K (q := 21) rfl (L' := #[.val (.ref a), .val (.int ff), .val (.int t), .val (.int (3 : Int32)), .val (.int c3)]) d8_19 rfl ?_
        refine Go.iload K (q := 23) rfl d8_21 rfl ?_
        refine Go.bipush K (q := 25) rfl (v := (48 : Int32)) (by decide) d8_23 ?_
        refine Go.icmp K (q := 35) (q' := 28) (by decide) (by decide) rfl d8_25 (fun (d0 : c3 < (48 : Int32)) => ?_) (fun (d0 : ¬ c3 < (48 : Int32)) => ?_)
        · skip
          refine Go.iconst K (q := 36) rfl (v := (0 : Int32)) (by decide) d8_35 ?_
          exact Go.retN K (by simp) d8_36 (by decide) (by decide) (⟨by rw [own_fr3, if_pos g, own_dg, if_pos d0]; rfl, rfl⟩)
        · skip
          refine Go.iload K (q := 30) rfl d8_28 rfl ?_
          refine Go.bipush K (q := 32) rfl (v := (57 : Int32)) (by decide) d8_30 ?_
          refine Go.icmp K (q := 37) (q' := 35) (by decide) (by decide) rfl d8_32 (fun (d1 : ¬ (57 : Int32) < c3) => ?_) (fun (d1 : (57 : Int32) < c3) => ?_)
          · skip
            refine Go.iinc K (q := 40) rfl (L' := #[.val (.ref a), .val (.int ff), .val (.int t), .val (.int ((3 : Int32) + (1 : Int32))), .val (.int c3)]) (y := (1 : Int32)) (by decide) d8_37 rfl rfl ?_
            refine Go.goto K (q := 9) (by decide) (by decide) d8_40 ?_
            show Go p l e _ s m _ below meth c _ _ _ _ h 0 0 (mkF m 9 #[.val (.ref a), .val (.int ff), .val (.int t), .val (.int (4 : Int32)), .val (.int c3)] [])
            have e : own_fr3 t c0 c1 c2 c3 = own_fr4 t c0 c1 c2 c3 := by rw [own_fr3, if_pos g, own_dg, if_neg d0, if_neg d1]; rfl
            rw [e]
            exact key4 _ _ (Or.inr ⟨_, rfl⟩)
          · skip
            refine Go.iconst K (q := 36) rfl (v := (0 : Int32)) (by decide) d8_35 ?_
            exact Go.retN K (by simp) d8_36 (by decide) (by decide) (⟨by rw [own_fr3, if_pos g, own_dg, if_neg d0, if_pos d1]; rfl, rfl⟩)
  have key2 : ∀ (ff : Int32) (x4 : Slot), (x4 = .unset ∨ ∃ y, x4 = .val (.int y)) → Go p l e ({ frames := 5, cells := 0, slots := 0, locals := 66 } : Room) s m #[(.ref a), (.int f), (.int t)] below meth c n0 ({ frames := 5, cells := 0, slots := 0, locals := 66 } : Room).cells ({ frames := 5, cells := 0, slots := 0, locals := 66 } : Room).slots (fun v h' => v = some (.int (own_fr2 t c0 c1 c2 c3)) ∧ h = h') h 0 0 (mkF m 9 #[.val (.ref a), .val (.int ff), .val (.int t), .val (.int (2 : Int32)), x4] []) := by
    intro ff x4 hx4
    rcases hx4 with rfl | ⟨y4, rfl⟩
    · skip
      show Go p l e _ s m _ below meth c _ _ _ _ h 0 0 (mkF m 9 #[.val (.ref a), .val (.int ff), .val (.int t), .val (.int (2 : Int32)), .unset] [])
      refine Go.iloadN K (q := 10) rfl d8_9 rfl ?_
      refine Go.iloadN K (q := 11) rfl d8_10 rfl ?_
      refine Go.icmp K (q := 43) (q' := 14) (by decide) (by decide) rfl d8_11 (fun (g : ¬ (2 : Int32) < t) => ?_) (fun (g : (2 : Int32) < t) => ?_)
      · skip
        refine Go.iconst K (q := 44) rfl (v := (1 : Int32)) (by decide) d8_43 ?_
        exact Go.retN K (by simp) d8_44 (by decide) (by decide) (⟨by rw [own_fr2, if_neg (by simpa using g)]; rfl, rfl⟩)
      · skip
        refine Go.aloadN K (q := 15) rfl d8_14 rfl rfl ?_
        refine Go.iloadN K (q := 16) rfl d8_15 rfl ?_
        refine Go.cV K (q := 19) rfl (y := (⟨"java/lang/String", "charAt", "(I)C"⟩ : MethodName)) (z := (⟨"java/lang/String", "charAt", "(I)C"⟩ : MethodName)) (c_ch2 l Z a0 hw n0 h Z0 a c0 c1 c2 c3 r0 r1 r2 r3 S0 SD SH SL z Sa hz fm rf Sf) (hw _ (List.mem_of_getElem? (i := 65) rfl)) (hw _ (List.mem_of_getElem? (i := 66) rfl)) (nfS K (hw _ (List.mem_of_getElem? (i := 68) rfl))) (hw _ (List.mem_of_getElem? (i := 68) rfl)) (hw _ (List.mem_of_getElem? (i := 67) rfl)) (hw _ (List.mem_of_getElem? (i := 9) rfl)) (hw _ (List.mem_of_getElem? (i := 69) rfl)) (by decide) hx pd14 (argsL := [(.int (2 : Int32))]) (rest := []) rfl rfl rfl rfl (W := 0) (Nat.le_of_eq rfl) (by decide) (by decide) d8_16 (cells' := 0) (slots' := 0) rfl rfl (by decide) (by decide) ?_
        intro r6 h5 hQ
        obtain ⟨rfl, rfl⟩ := hQ
        show Go p l e _ s m _ below meth c _ _ _ _ h 0 0 (mkF m 19 #[.val (.ref a), .val (.int ff), .val (.int t), .val (.int (2 : Int32)), .unset] [(.int c2)])
        refine Go.istore K (q := 21) rfl (L' := #[.val (.ref a), .val (.int ff), .val (.int t), .val (.int (2 : Int32)), .val (.int c2)]) d8_19 rfl ?_
        refine Go.iload K (q := 23) rfl d8_21 rfl ?_
        refine Go.bipush K (q := 25) rfl (v := (48 : Int32)) (by decide) d8_23 ?_
        refine Go.icmp K (q := 35) (q' := 28) (by decide) (by decide) rfl d8_25 (fun (d0 : c2 < (48 : Int32)) => ?_) (fun (d0 : ¬ c2 < (48 : Int32)) => ?_)
        · skip
          refine Go.iconst K (q := 36) rfl (v := (0 : Int32)) (by decide) d8_35 ?_
          exact Go.retN K (by simp) d8_36 (by decide) (by decide) (⟨by rw [own_fr2, if_pos g, own_dg, if_pos d0]; rfl, rfl⟩)
        · skip
          refine Go.iload K (q := 30) rfl d8_28 rfl ?_
          refine Go.bipush K (q := 32) rfl (v := (57 : Int32)) (by decide) d8_30 ?_
          refine Go.icmp K (q := 37) (q' := 35) (by decide) (by decide) rfl d8_32 (fun (d1 : ¬ (57 : Int32) < c2) => ?_) (fun (d1 : (57 : Int32) < c2) => ?_)
          · skip
            refine Go.iinc K (q := 40) rfl (L' := #[.val (.ref a), .val (.int ff), .val (.int t), .val (.int ((2 : Int32) + (1 : Int32))), .val (.int c2)]) (y := (1 : Int32)) (by decide) d8_37 rfl rfl ?_
            refine Go.goto K (q := 9) (by decide) (by decide) d8_40 ?_
            show Go p l e _ s m _ below meth c _ _ _ _ h 0 0 (mkF m 9 #[.val (.ref a), .val (.int ff), .val (.int t), .val (.int (3 : Int32)), .val (.int c2)] [])
            have e : own_fr2 t c0 c1 c2 c3 = own_fr3 t c0 c1 c2 c3 := by rw [own_fr2, if_pos g, own_dg, if_neg d0, if_neg d1]; rfl
            rw [e]
            exact key3 _ _ (Or.inr ⟨_, rfl⟩)
          · skip
            refine Go.iconst K (q := 36) rfl (v := (0 : Int32)) (by decide) d8_35 ?_
            exact Go.retN K (by simp) d8_36 (by decide) (by decide) (⟨by rw [own_fr2, if_pos g, own_dg, if_neg d0, if_pos d1]; rfl, rfl⟩)
    · skip
      show Go p l e _ s m _ below meth c _ _ _ _ h 0 0 (mkF m 9 #[.val (.ref a), .val (.int ff), .val (.int t), .val (.int (2 : Int32)), .val (.int y4)] [])
      refine Go.iloadN K (q := 10) rfl d8_9 rfl ?_
      refine Go.iloadN K (q := 11) rfl d8_10 rfl ?_
      refine Go.icmp K (q := 43) (q' := 14) (by decide) (by decide) rfl d8_11 (fun (g : ¬ (2 : Int32) < t) => ?_) (fun (g : (2 : Int32) < t) => ?_)
      · skip
        refine Go.iconst K (q := 44) rfl (v := (1 : Int32)) (by decide) d8_43 ?_
        exact Go.retN K (by simp) d8_44 (by decide) (by decide) (⟨by rw [own_fr2, if_neg (by simpa using g)]; rfl, rfl⟩)
      · skip
        refine Go.aloadN K (q := 15) rfl d8_14 rfl rfl ?_
        refine Go.iloadN K (q := 16) rfl d8_15 rfl ?_
        refine Go.cV K (q := 19) rfl (y := (⟨"java/lang/String", "charAt", "(I)C"⟩ : MethodName)) (z := (⟨"java/lang/String", "charAt", "(I)C"⟩ : MethodName)) (c_ch2 l Z a0 hw n0 h Z0 a c0 c1 c2 c3 r0 r1 r2 r3 S0 SD SH SL z Sa hz fm rf Sf) (hw _ (List.mem_of_getElem? (i := 65) rfl)) (hw _ (List.mem_of_getElem? (i := 66) rfl)) (nfS K (hw _ (List.mem_of_getElem? (i := 68) rfl))) (hw _ (List.mem_of_getElem? (i := 68) rfl)) (hw _ (List.mem_of_getElem? (i := 67) rfl)) (hw _ (List.mem_of_getElem? (i := 9) rfl)) (hw _ (List.mem_of_getElem? (i := 69) rfl)) (by decide) hx pd14 (argsL := [(.int (2 : Int32))]) (rest := []) rfl rfl rfl rfl (W := 0) (Nat.le_of_eq rfl) (by decide) (by decide) d8_16 (cells' := 0) (slots' := 0) rfl rfl (by decide) (by decide) ?_
        intro r8 h7 hQ
        obtain ⟨rfl, rfl⟩ := hQ
        show Go p l e _ s m _ below meth c _ _ _ _ h 0 0 (mkF m 19 #[.val (.ref a), .val (.int ff), .val (.int t), .val (.int (2 : Int32)), .val (.int y4)] [(.int c2)])
        refine Go.istore K (q := 21) rfl (L' := #[.val (.ref a), .val (.int ff), .val (.int t), .val (.int (2 : Int32)), .val (.int c2)]) d8_19 rfl ?_
        refine Go.iload K (q := 23) rfl d8_21 rfl ?_
        refine Go.bipush K (q := 25) rfl (v := (48 : Int32)) (by decide) d8_23 ?_
        refine Go.icmp K (q := 35) (q' := 28) (by decide) (by decide) rfl d8_25 (fun (d0 : c2 < (48 : Int32)) => ?_) (fun (d0 : ¬ c2 < (48 : Int32)) => ?_)
        · skip
          refine Go.iconst K (q := 36) rfl (v := (0 : Int32)) (by decide) d8_35 ?_
          exact Go.retN K (by simp) d8_36 (by decide) (by decide) (⟨by rw [own_fr2, if_pos g, own_dg, if_pos d0]; rfl, rfl⟩)
        · skip
          refine Go.iload K (q := 30) rfl d8_28 rfl ?_
          refine Go.bipush K (q := 32) rfl (v := (57 : Int32)) (by decide) d8_30 ?_
          refine Go.icmp K (q := 37) (q' := 35) (by decide) (by decide) rfl d8_32 (fun (d1 : ¬ (57 : Int32) < c2) => ?_) (fun (d1 : (57 : Int32) < c2) => ?_)
          · skip
            refine Go.iinc K (q := 40) rfl (L' := #[.val (.ref a), .val (.int ff), .val (.int t), .val (.int ((2 : Int32) + (1 : Int32))), .val (.int c2)]) (y := (1 : Int32)) (by decide) d8_37 rfl rfl ?_
            refine Go.goto K (q := 9) (by decide) (by decide) d8_40 ?_
            show Go p l e _ s m _ below meth c _ _ _ _ h 0 0 (mkF m 9 #[.val (.ref a), .val (.int ff), .val (.int t), .val (.int (3 : Int32)), .val (.int c2)] [])
            have e : own_fr2 t c0 c1 c2 c3 = own_fr3 t c0 c1 c2 c3 := by rw [own_fr2, if_pos g, own_dg, if_neg d0, if_neg d1]; rfl
            rw [e]
            exact key3 _ _ (Or.inr ⟨_, rfl⟩)
          · skip
            refine Go.iconst K (q := 36) rfl (v := (0 : Int32)) (by decide) d8_35 ?_
            exact Go.retN K (by simp) d8_36 (by decide) (by decide) (⟨by rw [own_fr2, if_pos g, own_dg, if_neg d0, if_pos d1]; rfl, rfl⟩)
  have key1 : ∀ (ff : Int32) (x4 : Slot), (x4 = .unset ∨ ∃ y, x4 = .val (.int y)) → Go p l e ({ frames := 5, cells := 0, slots := 0, locals := 66 } : Room) s m #[(.ref a), (.int f), (.int t)] below meth c n0 ({ frames := 5, cells := 0, slots := 0, locals := 66 } : Room).cells ({ frames := 5, cells := 0, slots := 0, locals := 66 } : Room).slots (fun v h' => v = some (.int (own_fr1 t c0 c1 c2 c3)) ∧ h = h') h 0 0 (mkF m 9 #[.val (.ref a), .val (.int ff), .val (.int t), .val (.int (1 : Int32)), x4] []) := by
    intro ff x4 hx4
    rcases hx4 with rfl | ⟨y4, rfl⟩
    · skip
      show Go p l e _ s m _ below meth c _ _ _ _ h 0 0 (mkF m 9 #[.val (.ref a), .val (.int ff), .val (.int t), .val (.int (1 : Int32)), .unset] [])
      refine Go.iloadN K (q := 10) rfl d8_9 rfl ?_
      refine Go.iloadN K (q := 11) rfl d8_10 rfl ?_
      refine Go.icmp K (q := 43) (q' := 14) (by decide) (by decide) rfl d8_11 (fun (g : ¬ (1 : Int32) < t) => ?_) (fun (g : (1 : Int32) < t) => ?_)
      · skip
        refine Go.iconst K (q := 44) rfl (v := (1 : Int32)) (by decide) d8_43 ?_
        exact Go.retN K (by simp) d8_44 (by decide) (by decide) (⟨by rw [own_fr1, if_neg (by simpa using g)]; rfl, rfl⟩)
      · skip
        refine Go.aloadN K (q := 15) rfl d8_14 rfl rfl ?_
        refine Go.iloadN K (q := 16) rfl d8_15 rfl ?_
        refine Go.cV K (q := 19) rfl (y := (⟨"java/lang/String", "charAt", "(I)C"⟩ : MethodName)) (z := (⟨"java/lang/String", "charAt", "(I)C"⟩ : MethodName)) (c_ch1 l Z a0 hw n0 h Z0 a c0 c1 c2 c3 r0 r1 r2 r3 S0 SD SH SL z Sa hz fm rf Sf) (hw _ (List.mem_of_getElem? (i := 65) rfl)) (hw _ (List.mem_of_getElem? (i := 66) rfl)) (nfS K (hw _ (List.mem_of_getElem? (i := 68) rfl))) (hw _ (List.mem_of_getElem? (i := 68) rfl)) (hw _ (List.mem_of_getElem? (i := 67) rfl)) (hw _ (List.mem_of_getElem? (i := 9) rfl)) (hw _ (List.mem_of_getElem? (i := 69) rfl)) (by decide) hx pd14 (argsL := [(.int (1 : Int32))]) (rest := []) rfl rfl rfl rfl (W := 0) (Nat.le_of_eq rfl) (by decide) (by decide) d8_16 (cells' := 0) (slots' := 0) rfl rfl (by decide) (by decide) ?_
        intro r10 h9 hQ
        obtain ⟨rfl, rfl⟩ := hQ
        show Go p l e _ s m _ below meth c _ _ _ _ h 0 0 (mkF m 19 #[.val (.ref a), .val (.int ff), .val (.int t), .val (.int (1 : Int32)), .unset] [(.int c1)])
        refine Go.istore K (q := 21) rfl (L' := #[.val (.ref a), .val (.int ff), .val (.int t), .val (.int (1 : Int32)), .val (.int c1)]) d8_19 rfl ?_
        refine Go.iload K (q := 23) rfl d8_21 rfl ?_
        refine Go.bipush K (q := 25) rfl (v := (48 : Int32)) (by decide) d8_23 ?_
        refine Go.icmp K (q := 35) (q' := 28) (by decide) (by decide) rfl d8_25 (fun (d0 : c1 < (48 : Int32)) => ?_) (fun (d0 : ¬ c1 < (48 : Int32)) => ?_)
        · skip
          refine Go.iconst K (q := 36) rfl (v := (0 : Int32)) (by decide) d8_35 ?_
          exact Go.retN K (by simp) d8_36 (by decide) (by decide) (⟨by rw [own_fr1, if_pos g, own_dg, if_pos d0]; rfl, rfl⟩)
        · skip
          refine Go.iload K (q := 30) rfl d8_28 rfl ?_
          refine Go.bipush K (q := 32) rfl (v := (57 : Int32)) (by decide) d8_30 ?_
          refine Go.icmp K (q := 37) (q' := 35) (by decide) (by decide) rfl d8_32 (fun (d1 : ¬ (57 : Int32) < c1) => ?_) (fun (d1 : (57 : Int32) < c1) => ?_)
          · skip
            refine Go.iinc K (q := 40) rfl (L' := #[.val (.ref a), .val (.int ff), .val (.int t), .val (.int ((1 : Int32) + (1 : Int32))), .val (.int c1)]) (y := (1 : Int32)) (by decide) d8_37 rfl rfl ?_
            refine Go.goto K (q := 9) (by decide) (by decide) d8_40 ?_
            show Go p l e _ s m _ below meth c _ _ _ _ h 0 0 (mkF m 9 #[.val (.ref a), .val (.int ff), .val (.int t), .val (.int (2 : Int32)), .val (.int c1)] [])
            have e : own_fr1 t c0 c1 c2 c3 = own_fr2 t c0 c1 c2 c3 := by rw [own_fr1, if_pos g, own_dg, if_neg d0, if_neg d1]; rfl
            rw [e]
            exact key2 _ _ (Or.inr ⟨_, rfl⟩)
          · skip
            refine Go.iconst K (q := 36) rfl (v := (0 : Int32)) (by decide) d8_35 ?_
            exact Go.retN K (by simp) d8_36 (by decide) (by decide) (⟨by rw [own_fr1, if_pos g, own_dg, if_neg d0, if_pos d1]; rfl, rfl⟩)
    · skip
      show Go p l e _ s m _ below meth c _ _ _ _ h 0 0 (mkF m 9 #[.val (.ref a), .val (.int ff), .val (.int t), .val (.int (1 : Int32)), .val (.int y4)] [])
      refine Go.iloadN K (q := 10) rfl d8_9 rfl ?_
      refine Go.iloadN K (q := 11) rfl d8_10 rfl ?_
      refine Go.icmp K (q := 43) (q' := 14) (by decide) (by decide) rfl d8_11 (fun (g : ¬ (1 : Int32) < t) => ?_) (fun (g : (1 : Int32) < t) => ?_)
      · skip
        refine Go.iconst K (q := 44) rfl (v := (1 : Int32)) (by decide) d8_43 ?_
        exact Go.retN K (by simp) d8_44 (by decide) (by decide) (⟨by rw [own_fr1, if_neg (by simpa using g)]; rfl, rfl⟩)
      · skip
        refine Go.aloadN K (q := 15) rfl d8_14 rfl rfl ?_
        refine Go.iloadN K (q := 16) rfl d8_15 rfl ?_
        refine Go.cV K (q := 19) rfl (y := (⟨"java/lang/String", "charAt", "(I)C"⟩ : MethodName)) (z := (⟨"java/lang/String", "charAt", "(I)C"⟩ : MethodName)) (c_ch1 l Z a0 hw n0 h Z0 a c0 c1 c2 c3 r0 r1 r2 r3 S0 SD SH SL z Sa hz fm rf Sf) (hw _ (List.mem_of_getElem? (i := 65) rfl)) (hw _ (List.mem_of_getElem? (i := 66) rfl)) (nfS K (hw _ (List.mem_of_getElem? (i := 68) rfl))) (hw _ (List.mem_of_getElem? (i := 68) rfl)) (hw _ (List.mem_of_getElem? (i := 67) rfl)) (hw _ (List.mem_of_getElem? (i := 9) rfl)) (hw _ (List.mem_of_getElem? (i := 69) rfl)) (by decide) hx pd14 (argsL := [(.int (1 : Int32))]) (rest := []) rfl rfl rfl rfl (W := 0) (Nat.le_of_eq rfl) (by decide) (by decide) d8_16 (cells' := 0) (slots' := 0) rfl rfl (by decide) (by decide) ?_
        intro r12 h11 hQ
        obtain ⟨rfl, rfl⟩ := hQ
        show Go p l e _ s m _ below meth c _ _ _ _ h 0 0 (mkF m 19 #[.val (.ref a), .val (.int ff), .val (.int t), .val (.int (1 : Int32)), .val (.int y4)] [(.int c1)])
        refine Go.istore K (q := 21) rfl (L' := #[.val (.ref a), .val (.int ff), .val (.int t), .val (.int (1 : Int32)), .val (.int c1)]) d8_19 rfl ?_
        refine Go.iload K (q := 23) rfl d8_21 rfl ?_
        refine Go.bipush K (q := 25) rfl (v := (48 : Int32)) (by decide) d8_23 ?_
        refine Go.icmp K (q := 35) (q' := 28) (by decide) (by decide) rfl d8_25 (fun (d0 : c1 < (48 : Int32)) => ?_) (fun (d0 : ¬ c1 < (48 : Int32)) => ?_)
        · skip
          refine Go.iconst K (q := 36) rfl (v := (0 : Int32)) (by decide) d8_35 ?_
          exact Go.retN K (by simp) d8_36 (by decide) (by decide) (⟨by rw [own_fr1, if_pos g, own_dg, if_pos d0]; rfl, rfl⟩)
        · skip
          refine Go.iload K (q := 30) rfl d8_28 rfl ?_
          refine Go.bipush K (q := 32) rfl (v := (57 : Int32)) (by decide) d8_30 ?_
          refine Go.icmp K (q := 37) (q' := 35) (by decide) (by decide) rfl d8_32 (fun (d1 : ¬ (57 : Int32) < c1) => ?_) (fun (d1 : (57 : Int32) < c1) => ?_)
          · skip
            refine Go.iinc K (q := 40) rfl (L' := #[.val (.ref a), .val (.int ff), .val (.int t), .val (.int ((1 : Int32) + (1 : Int32))), .val (.int c1)]) (y := (1 : Int32)) (by decide) d8_37 rfl rfl ?_
            refine Go.goto K (q := 9) (by decide) (by decide) d8_40 ?_
            show Go p l e _ s m _ below meth c _ _ _ _ h 0 0 (mkF m 9 #[.val (.ref a), .val (.int ff), .val (.int t), .val (.int (2 : Int32)), .val (.int c1)] [])
            have e : own_fr1 t c0 c1 c2 c3 = own_fr2 t c0 c1 c2 c3 := by rw [own_fr1, if_pos g, own_dg, if_neg d0, if_neg d1]; rfl
            rw [e]
            exact key2 _ _ (Or.inr ⟨_, rfl⟩)
          · skip
            refine Go.iconst K (q := 36) rfl (v := (0 : Int32)) (by decide) d8_35 ?_
            exact Go.retN K (by simp) d8_36 (by decide) (by decide) (⟨by rw [own_fr1, if_pos g, own_dg, if_neg d0, if_pos d1]; rfl, rfl⟩)
  have key0 : ∀ (ff : Int32) (x4 : Slot), (x4 = .unset ∨ ∃ y, x4 = .val (.int y)) → Go p l e ({ frames := 5, cells := 0, slots := 0, locals := 66 } : Room) s m #[(.ref a), (.int f), (.int t)] below meth c n0 ({ frames := 5, cells := 0, slots := 0, locals := 66 } : Room).cells ({ frames := 5, cells := 0, slots := 0, locals := 66 } : Room).slots (fun v h' => v = some (.int (own_fr0 t c0 c1 c2 c3)) ∧ h = h') h 0 0 (mkF m 9 #[.val (.ref a), .val (.int ff), .val (.int t), .val (.int (0 : Int32)), x4] []) := by
    intro ff x4 hx4
    rcases hx4 with rfl | ⟨y4, rfl⟩
    · skip
      show Go p l e _ s m _ below meth c _ _ _ _ h 0 0 (mkF m 9 #[.val (.ref a), .val (.int ff), .val (.int t), .val (.int (0 : Int32)), .unset] [])
      refine Go.iloadN K (q := 10) rfl d8_9 rfl ?_
      refine Go.iloadN K (q := 11) rfl d8_10 rfl ?_
      refine Go.icmp K (q := 43) (q' := 14) (by decide) (by decide) rfl d8_11 (fun (g : ¬ (0 : Int32) < t) => ?_) (fun (g : (0 : Int32) < t) => ?_)
      · skip
        refine Go.iconst K (q := 44) rfl (v := (1 : Int32)) (by decide) d8_43 ?_
        exact Go.retN K (by simp) d8_44 (by decide) (by decide) (⟨by rw [own_fr0, if_neg (by simpa using g)]; rfl, rfl⟩)
      · skip
        refine Go.aloadN K (q := 15) rfl d8_14 rfl rfl ?_
        refine Go.iloadN K (q := 16) rfl d8_15 rfl ?_
        refine Go.cV K (q := 19) rfl (y := (⟨"java/lang/String", "charAt", "(I)C"⟩ : MethodName)) (z := (⟨"java/lang/String", "charAt", "(I)C"⟩ : MethodName)) (c_ch0 l Z a0 hw n0 h Z0 a c0 c1 c2 c3 r0 r1 r2 r3 S0 SD SH SL z Sa hz fm rf Sf) (hw _ (List.mem_of_getElem? (i := 65) rfl)) (hw _ (List.mem_of_getElem? (i := 66) rfl)) (nfS K (hw _ (List.mem_of_getElem? (i := 68) rfl))) (hw _ (List.mem_of_getElem? (i := 68) rfl)) (hw _ (List.mem_of_getElem? (i := 67) rfl)) (hw _ (List.mem_of_getElem? (i := 9) rfl)) (hw _ (List.mem_of_getElem? (i := 69) rfl)) (by decide) hx pd14 (argsL := [(.int (0 : Int32))]) (rest := []) rfl rfl rfl rfl (W := 0) (Nat.le_of_eq rfl) (by decide) (by decide) d8_16 (cells' := 0) (slots' := 0) rfl rfl (by decide) (by decide) ?_
        intro r14 h13 hQ
        obtain ⟨rfl, rfl⟩ := hQ
        show Go p l e _ s m _ below meth c _ _ _ _ h 0 0 (mkF m 19 #[.val (.ref a), .val (.int ff), .val (.int t), .val (.int (0 : Int32)), .unset] [(.int c0)])
        refine Go.istore K (q := 21) rfl (L' := #[.val (.ref a), .val (.int ff), .val (.int t), .val (.int (0 : Int32)), .val (.int c0)]) d8_19 rfl ?_
        refine Go.iload K (q := 23) rfl d8_21 rfl ?_
        refine Go.bipush K (q := 25) rfl (v := (48 : Int32)) (by decide) d8_23 ?_
        refine Go.icmp K (q := 35) (q' := 28) (by decide) (by decide) rfl d8_25 (fun (d0 : c0 < (48 : Int32)) => ?_) (fun (d0 : ¬ c0 < (48 : Int32)) => ?_)
        · skip
          refine Go.iconst K (q := 36) rfl (v := (0 : Int32)) (by decide) d8_35 ?_
          exact Go.retN K (by simp) d8_36 (by decide) (by decide) (⟨by rw [own_fr0, if_pos g, own_dg, if_pos d0]; rfl, rfl⟩)
        · skip
          refine Go.iload K (q := 30) rfl d8_28 rfl ?_
          refine Go.bipush K (q := 32) rfl (v := (57 : Int32)) (by decide) d8_30 ?_
          refine Go.icmp K (q := 37) (q' := 35) (by decide) (by decide) rfl d8_32 (fun (d1 : ¬ (57 : Int32) < c0) => ?_) (fun (d1 : (57 : Int32) < c0) => ?_)
          · skip
            refine Go.iinc K (q := 40) rfl (L' := #[.val (.ref a), .val (.int ff), .val (.int t), .val (.int ((0 : Int32) + (1 : Int32))), .val (.int c0)]) (y := (1 : Int32)) (by decide) d8_37 rfl rfl ?_
            refine Go.goto K (q := 9) (by decide) (by decide) d8_40 ?_
            show Go p l e _ s m _ below meth c _ _ _ _ h 0 0 (mkF m 9 #[.val (.ref a), .val (.int ff), .val (.int t), .val (.int (1 : Int32)), .val (.int c0)] [])
            have e : own_fr0 t c0 c1 c2 c3 = own_fr1 t c0 c1 c2 c3 := by rw [own_fr0, if_pos g, own_dg, if_neg d0, if_neg d1]; rfl
            rw [e]
            exact key1 _ _ (Or.inr ⟨_, rfl⟩)
          · skip
            refine Go.iconst K (q := 36) rfl (v := (0 : Int32)) (by decide) d8_35 ?_
            exact Go.retN K (by simp) d8_36 (by decide) (by decide) (⟨by rw [own_fr0, if_pos g, own_dg, if_neg d0, if_pos d1]; rfl, rfl⟩)
    · skip
      show Go p l e _ s m _ below meth c _ _ _ _ h 0 0 (mkF m 9 #[.val (.ref a), .val (.int ff), .val (.int t), .val (.int (0 : Int32)), .val (.int y4)] [])
      refine Go.iloadN K (q := 10) rfl d8_9 rfl ?_
      refine Go.iloadN K (q := 11) rfl d8_10 rfl ?_
      refine Go.icmp K (q := 43) (q' := 14) (by decide) (by decide) rfl d8_11 (fun (g : ¬ (0 : Int32) < t) => ?_) (fun (g : (0 : Int32) < t) => ?_)
      · skip
        refine Go.iconst K (q := 44) rfl (v := (1 : Int32)) (by decide) d8_43 ?_
        exact Go.retN K (by simp) d8_44 (by decide) (by decide) (⟨by rw [own_fr0, if_neg (by simpa using g)]; rfl, rfl⟩)
      · skip
        refine Go.aloadN K (q := 15) rfl d8_14 rfl rfl ?_
        refine Go.iloadN K (q := 16) rfl d8_15 rfl ?_
        refine Go.cV K (q := 19) rfl (y := (⟨"java/lang/String", "charAt", "(I)C"⟩ : MethodName)) (z := (⟨"java/lang/String", "charAt", "(I)C"⟩ : MethodName)) (c_ch0 l Z a0 hw n0 h Z0 a c0 c1 c2 c3 r0 r1 r2 r3 S0 SD SH SL z Sa hz fm rf Sf) (hw _ (List.mem_of_getElem? (i := 65) rfl)) (hw _ (List.mem_of_getElem? (i := 66) rfl)) (nfS K (hw _ (List.mem_of_getElem? (i := 68) rfl))) (hw _ (List.mem_of_getElem? (i := 68) rfl)) (hw _ (List.mem_of_getElem? (i := 67) rfl)) (hw _ (List.mem_of_getElem? (i := 9) rfl)) (hw _ (List.mem_of_getElem? (i := 69) rfl)) (by decide) hx pd14 (argsL := [(.int (0 : Int32))]) (rest := []) rfl rfl rfl rfl (W := 0) (Nat.le_of_eq rfl) (by decide) (by decide) d8_16 (cells' := 0) (slots' := 0) rfl rfl (by decide) (by decide) ?_
        intro r16 h15 hQ
        obtain ⟨rfl, rfl⟩ := hQ
        show Go p l e _ s m _ below meth c _ _ _ _ h 0 0 (mkF m 19 #[.val (.ref a), .val (.int ff), .val (.int t), .val (.int (0 : Int32)), .val (.int y4)] [(.int c0)])
        refine Go.istore K (q := 21) rfl (L' := #[.val (.ref a), .val (.int ff), .val (.int t), .val (.int (0 : Int32)), .val (.int c0)]) d8_19 rfl ?_
        refine Go.iload K (q := 23) rfl d8_21 rfl ?_
        refine Go.bipush K (q := 25) rfl (v := (48 : Int32)) (by decide) d8_23 ?_
        refine Go.icmp K (q := 35) (q' := 28) (by decide) (by decide) rfl d8_25 (fun (d0 : c0 < (48 : Int32)) => ?_) (fun (d0 : ¬ c0 < (48 : Int32)) => ?_)
        · skip
          refine Go.iconst K (q := 36) rfl (v := (0 : Int32)) (by decide) d8_35 ?_
          exact Go.retN K (by simp) d8_36 (by decide) (by decide) (⟨by rw [own_fr0, if_pos g, own_dg, if_pos d0]; rfl, rfl⟩)
        · skip
          refine Go.iload K (q := 30) rfl d8_28 rfl ?_
          refine Go.bipush K (q := 32) rfl (v := (57 : Int32)) (by decide) d8_30 ?_
          refine Go.icmp K (q := 37) (q' := 35) (by decide) (by decide) rfl d8_32 (fun (d1 : ¬ (57 : Int32) < c0) => ?_) (fun (d1 : (57 : Int32) < c0) => ?_)
          · skip
            refine Go.iinc K (q := 40) rfl (L' := #[.val (.ref a), .val (.int ff), .val (.int t), .val (.int ((0 : Int32) + (1 : Int32))), .val (.int c0)]) (y := (1 : Int32)) (by decide) d8_37 rfl rfl ?_
            refine Go.goto K (q := 9) (by decide) (by decide) d8_40 ?_
            show Go p l e _ s m _ below meth c _ _ _ _ h 0 0 (mkF m 9 #[.val (.ref a), .val (.int ff), .val (.int t), .val (.int (1 : Int32)), .val (.int c0)] [])
            have e : own_fr0 t c0 c1 c2 c3 = own_fr1 t c0 c1 c2 c3 := by rw [own_fr0, if_pos g, own_dg, if_neg d0, if_neg d1]; rfl
            rw [e]
            exact key1 _ _ (Or.inr ⟨_, rfl⟩)
          · skip
            refine Go.iconst K (q := 36) rfl (v := (0 : Int32)) (by decide) d8_35 ?_
            exact Go.retN K (by simp) d8_36 (by decide) (by decide) (⟨by rw [own_fr0, if_pos g, own_dg, if_neg d0, if_pos d1]; rfl, rfl⟩)
  refine Go.iloadN K (q := 1) rfl d8_0 rfl ?_
  refine Go.iloadN K (q := 2) rfl d8_1 rfl ?_
  refine Go.icmp K (q := 7) (q' := 5) (by decide) (by decide) rfl d8_2 (fun (gf : f < t) => ?_) (fun (gf : ¬ f < t) => ?_)
  · skip
    refine Go.iloadN K (q := 8) rfl d8_7 rfl ?_
    refine Go.istoreN K (q := 9) rfl (L' := #[.val (.ref a), .val (.int f), .val (.int t), .val (.int f), .unset]) d8_8 rfl ?_
    rcases hf with rfl | rfl | rfl | rfl | rfl
    · rw [show own_is (0 : Int32) t c0 c1 c2 c3 = own_fr0 t c0 c1 c2 c3 from by rw [own_is, if_pos gf]; rfl]
      exact key0 _ _ (Or.inl rfl)
    · rw [show own_is (1 : Int32) t c0 c1 c2 c3 = own_fr1 t c0 c1 c2 c3 from by rw [own_is, if_pos gf]; rfl]
      exact key1 _ _ (Or.inl rfl)
    · rw [show own_is (2 : Int32) t c0 c1 c2 c3 = own_fr2 t c0 c1 c2 c3 from by rw [own_is, if_pos gf]; rfl]
      exact key2 _ _ (Or.inl rfl)
    · rw [show own_is (3 : Int32) t c0 c1 c2 c3 = own_fr3 t c0 c1 c2 c3 from by rw [own_is, if_pos gf]; rfl]
      exact key3 _ _ (Or.inl rfl)
    · rw [show own_is (4 : Int32) t c0 c1 c2 c3 = own_fr4 t c0 c1 c2 c3 from by rw [own_is, if_pos gf]; rfl]
      exact key4 _ _ (Or.inl rfl)
  · skip
    refine Go.iconst K (q := 6) rfl (v := (0 : Int32)) (by decide) d8_5 ?_
    exact Go.retN K (by simp) d8_6 (by decide) (by decide) (⟨by rw [own_is, if_neg gf]; rfl, rfl⟩)
set_option maxRecDepth 65536 in
set_option maxHeartbeats 40000000 in
theorem rm0 (l : Launch) (Z : State) (a0 : Array Value) (hw : ∀ d ∈ tables_1, d.before a0 Z = true) (ws : List Jvm.Cond) (n0 : Nat) (h : Heap) (Z0 : n0 ≤ h.size) (x0 x1 x2 x3 pp : Int32) (z : Int32) (Sa : Sta Z h "java/lang/String" "COMPACT_STRINGS" "Z" (.int z)) (hz : ¬ z = 0) (SD : Sta Z h "java/lang/StringUTF16" "$assertionsDisabled" "Z" (.int 1)) (SH : Sta Z h "java/lang/StringUTF16" "HI_BYTE_SHIFT" "I" (.int 0)) (SL : Sta Z h "java/lang/StringUTF16" "LO_BYTE_SHIFT" "I" (.int 8)) (fm : Value) (rf : fm.isRef = true) (Sf : Sta Z h "jdk/internal/util/Preconditions" "SIOOBE_FORMATTER" "Ljava/util/function/BiFunction;" fm) :
    Ctr l Z n0 x code maxLocals ret ws room_1 #[(.int x0), (.int x1), (.int x2), (.int x3), (.int pp)] h (fun v h' => v = some (.int 1)) := by
  refine Ctr.body pn22 ?_
  intro p e s m below meth c K
  refine Go.entry (f' := (mkF m 0 #[.val (.int x0), .val (.int x1), .val (.int x2), .val (.int x3), .val (.int pp), .unset, .unset, .unset, .unset, .unset] [])) (by first | (simp [entryFrame, mkF, argsToLocals, Value.category, maxLocals]; done) | rfl) ?_
  have E0 := Ext.refl h
  refine Go.iconst K (q := 1) rfl (v := (4 : Int32)) (by decide) at_0 ?_
  refine Go.newarr K (q := 3) rfl (hw _ (List.mem_of_getElem? (i := 0) rfl)) at_1 (by decide) (cap := 4) (by decide) (by decide) (cells' := 1) (slots' := 4) rfl rfl (by decide) (by decide) ?_
  intro h1 sc k_sc g_sc N_sc V_sc
  have V_sc : Arv Z h1 sc k_sc .char (4 : Int32) [(.int (0 : Int32)), (.int (0 : Int32)), (.int (0 : Int32)), (.int (0 : Int32))] (.int (0 : Int32)) := V_sc
  have ge_E0_sc : h.size ≤ sc := Nat.le_trans E0.1 (Nat.le_of_eq g_sc.symm)
  have E0 := Ext.trans E0 N_sc
  have n_sc : n0 ≤ sc := Nat.le_trans Z0 ge_E0_sc
  refine Go.astore K (q := 5) rfl (L' := #[.val (.int x0), .val (.int x1), .val (.int x2), .val (.int x3), .val (.int pp), .val (.ref sc), .unset, .unset, .unset, .unset]) at_3 rfl rfl ?_
  refine Go.aload K (q := 7) rfl at_5 rfl rfl ?_
  refine Go.iconst K (q := 8) rfl (v := (0 : Int32)) (by decide) at_7 ?_
  refine Go.iloadN K (q := 9) rfl at_8 rfl ?_
  refine Go.cS K (q := 12) rfl (y := (⟨"com/example/overplan/overplan/util/PlainNumberIsDigitsPinLaw", "draw", "(I)C"⟩ : MethodName)) (c_draw l Z a0 hw n0 h1 (Nat.le_trans Z0 E0.1) x0) (hw _ (List.mem_of_getElem? (i := 1) rfl)) (hw _ (List.mem_of_getElem? (i := 2) rfl)) (hw _ (List.mem_of_getElem? (i := 3) rfl)) (hw _ (List.mem_of_getElem? (i := 4) rfl)) (by decide) pd14 (argsL := [(.int x0)]) (rest := [(.int (0 : Int32)), (.ref sc)]) rfl rfl rfl rfl (W := 2) (Nat.le_of_eq rfl) (by decide) (by decide) at_9 (cells' := 1) (slots' := 4) rfl rfl (by decide) (by decide) ?_
  intro r3 h2 hQ
  obtain ⟨c0, rfl, r0, rfl⟩ := hQ
  show Go p l e _ s m _ below meth c _ _ _ _ h1 1 4 (mkF m 12 #[.val (.int x0), .val (.int x1), .val (.int x2), .val (.int x3), .val (.int pp), .val (.ref sc), .unset, .unset, .unset, .unset] [(.int c0), (.int (0 : Int32)), (.ref sc)])
  refine Go.castore K (q := 13) rfl V_sc (i := 0) at_12 ⟨by decide, by decide⟩ rfl (Nat.le_of_ble_eq_true rfl) n_sc ?_
  intro h4 W5 V_sc
  have E0 := Ext.wr E0 W5 ge_E0_sc
  rw [own_nc16 r0] at V_sc
  refine Go.aload K (q := 15) rfl at_13 rfl rfl ?_
  refine Go.iconst K (q := 16) rfl (v := (1 : Int32)) (by decide) at_15 ?_
  refine Go.iloadN K (q := 17) rfl at_16 rfl ?_
  refine Go.cS K (q := 20) rfl (y := (⟨"com/example/overplan/overplan/util/PlainNumberIsDigitsPinLaw", "draw", "(I)C"⟩ : MethodName)) (c_draw l Z a0 hw n0 h4 (Nat.le_trans Z0 E0.1) x1) (hw _ (List.mem_of_getElem? (i := 1) rfl)) (hw _ (List.mem_of_getElem? (i := 2) rfl)) (hw _ (List.mem_of_getElem? (i := 3) rfl)) (hw _ (List.mem_of_getElem? (i := 4) rfl)) (by decide) pd14 (argsL := [(.int x1)]) (rest := [(.int (1 : Int32)), (.ref sc)]) rfl rfl rfl rfl (W := 2) (Nat.le_of_eq rfl) (by decide) (by decide) at_17 (cells' := 1) (slots' := 4) rfl rfl (by decide) (by decide) ?_
  intro r7 h6 hQ
  obtain ⟨c1, rfl, r1, rfl⟩ := hQ
  show Go p l e _ s m _ below meth c _ _ _ _ h4 1 4 (mkF m 20 #[.val (.int x0), .val (.int x1), .val (.int x2), .val (.int x3), .val (.int pp), .val (.ref sc), .unset, .unset, .unset, .unset] [(.int c1), (.int (1 : Int32)), (.ref sc)])
  refine Go.castore K (q := 21) rfl V_sc (i := 1) at_20 ⟨by decide, by decide⟩ rfl (Nat.le_of_ble_eq_true rfl) n_sc ?_
  intro h8 W9 V_sc
  have E0 := Ext.wr E0 W9 ge_E0_sc
  rw [own_nc16 r1] at V_sc
  refine Go.aload K (q := 23) rfl at_21 rfl rfl ?_
  refine Go.iconst K (q := 24) rfl (v := (2 : Int32)) (by decide) at_23 ?_
  refine Go.iloadN K (q := 25) rfl at_24 rfl ?_
  refine Go.cS K (q := 28) rfl (y := (⟨"com/example/overplan/overplan/util/PlainNumberIsDigitsPinLaw", "draw", "(I)C"⟩ : MethodName)) (c_draw l Z a0 hw n0 h8 (Nat.le_trans Z0 E0.1) x2) (hw _ (List.mem_of_getElem? (i := 1) rfl)) (hw _ (List.mem_of_getElem? (i := 2) rfl)) (hw _ (List.mem_of_getElem? (i := 3) rfl)) (hw _ (List.mem_of_getElem? (i := 4) rfl)) (by decide) pd14 (argsL := [(.int x2)]) (rest := [(.int (2 : Int32)), (.ref sc)]) rfl rfl rfl rfl (W := 2) (Nat.le_of_eq rfl) (by decide) (by decide) at_25 (cells' := 1) (slots' := 4) rfl rfl (by decide) (by decide) ?_
  intro r11 h10 hQ
  obtain ⟨c2, rfl, r2, rfl⟩ := hQ
  show Go p l e _ s m _ below meth c _ _ _ _ h8 1 4 (mkF m 28 #[.val (.int x0), .val (.int x1), .val (.int x2), .val (.int x3), .val (.int pp), .val (.ref sc), .unset, .unset, .unset, .unset] [(.int c2), (.int (2 : Int32)), (.ref sc)])
  refine Go.castore K (q := 29) rfl V_sc (i := 2) at_28 ⟨by decide, by decide⟩ rfl (Nat.le_of_ble_eq_true rfl) n_sc ?_
  intro h12 W13 V_sc
  have E0 := Ext.wr E0 W13 ge_E0_sc
  rw [own_nc16 r2] at V_sc
  refine Go.aload K (q := 31) rfl at_29 rfl rfl ?_
  refine Go.iconst K (q := 32) rfl (v := (3 : Int32)) (by decide) at_31 ?_
  refine Go.iloadN K (q := 33) rfl at_32 rfl ?_
  refine Go.cS K (q := 36) rfl (y := (⟨"com/example/overplan/overplan/util/PlainNumberIsDigitsPinLaw", "draw", "(I)C"⟩ : MethodName)) (c_draw l Z a0 hw n0 h12 (Nat.le_trans Z0 E0.1) x3) (hw _ (List.mem_of_getElem? (i := 1) rfl)) (hw _ (List.mem_of_getElem? (i := 2) rfl)) (hw _ (List.mem_of_getElem? (i := 3) rfl)) (hw _ (List.mem_of_getElem? (i := 4) rfl)) (by decide) pd14 (argsL := [(.int x3)]) (rest := [(.int (3 : Int32)), (.ref sc)]) rfl rfl rfl rfl (W := 2) (Nat.le_of_eq rfl) (by decide) (by decide) at_33 (cells' := 1) (slots' := 4) rfl rfl (by decide) (by decide) ?_
  intro r15 h14 hQ
  obtain ⟨c3, rfl, r3, rfl⟩ := hQ
  show Go p l e _ s m _ below meth c _ _ _ _ h12 1 4 (mkF m 36 #[.val (.int x0), .val (.int x1), .val (.int x2), .val (.int x3), .val (.int pp), .val (.ref sc), .unset, .unset, .unset, .unset] [(.int c3), (.int (3 : Int32)), (.ref sc)])
  refine Go.castore K (q := 37) rfl V_sc (i := 3) at_36 ⟨by decide, by decide⟩ rfl (Nat.le_of_ble_eq_true rfl) n_sc ?_
  intro h16 W17 V_sc
  have E0 := Ext.wr E0 W17 ge_E0_sc
  rw [own_nc16 r3] at V_sc
  have V_sc : Arv Z h16 sc k_sc .char (4 : Int32) [.int c0, .int c1, .int c2, .int c3] (.int (0 : Int32)) := V_sc
  have hlt_sc := V_sc.lt
  refine Go.new K (q := 40) rfl (hw _ (List.mem_of_getElem? (i := 7) rfl)) (hw _ (List.mem_of_getElem? (i := 8) rfl)) (hw _ (List.mem_of_getElem? (i := 9) rfl)) at_37 (cells' := 2) (slots' := 8) rfl rfl (by decide) (by decide) ?_
  intro h19 a18 g_a18 N_a18 X_a18 D_a18
  have ge_E0_a18 : h.size ≤ a18 := Nat.le_trans E0.1 (Nat.le_of_eq g_a18.symm)
  have E0 := Ext.trans E0 N_a18
  have Fv_a18 : Fld Z h19 a18 "java/lang/String" "value" "[B" .null := D_a18 (Or.inr (hw _ (List.mem_of_getElem? (i := 35) rfl))) (ty := .array .byte) (by decide)
  have Fc_a18 : Fld Z h19 a18 "java/lang/String" "coder" "B" (.int (0 : Int32)) := D_a18 (Or.inr (hw _ (List.mem_of_getElem? (i := 33) rfl))) (ty := .byte) (by decide)
  have n_a18 : n0 ≤ a18 := Nat.le_trans Z0 ge_E0_a18
  have V_sc := V_sc.ext N_a18
  refine Go.dup K (q := 41) rfl at_40 rfl ?_
  refine Go.aload K (q := 43) rfl at_41 rfl rfl ?_
  have hsx : sc ∉ [a18] := ninS (Nat.ne_of_lt (Nat.lt_of_lt_of_le hlt_sc (Nat.le_of_eq g_a18.symm))) nin0
  refine Go.cI K (q := 46) rfl (y := (⟨"java/lang/String", "<init>", "([C)V"⟩ : MethodName)) (c_s1 l Z a0 hw n0 h19 (Nat.le_trans Z0 E0.1) a18 sc _ _ _ c0 c1 c2 c3 r0 r1 r2 r3 n_a18 X_a18 Fv_a18 Fc_a18 V_sc (SD.ext E0) (SH.ext E0) (SL.ext E0) z (Sa.ext E0) hz) rfl (hw _ (List.mem_of_getElem? (i := 10) rfl)) (hw _ (List.mem_of_getElem? (i := 11) rfl)) (hw _ (List.mem_of_getElem? (i := 9) rfl)) (hw _ (List.mem_of_getElem? (i := 12) rfl)) (by decide) (a := a18) pd15 (argsL := [(.ref sc)]) (rest := [(.ref a18)]) rfl rfl rfl rfl (W := 1) (Nat.le_of_eq rfl) (by decide) (by decide) at_43 (cells' := 4) (slots' := 20) rfl rfl (by decide) (by decide) ?_
  intro r22 h21 hQ
  obtain ⟨rfl, K20, S0⟩ := hQ
  have E0 := Ext.keep E0 K20 (allS ge_E0_a18 all0)
  show Go p l e _ s m _ below meth c _ _ _ _ h21 4 20 (mkF m 46 #[.val (.int x0), .val (.int x1), .val (.int x2), .val (.int x3), .val (.int pp), .val (.ref sc), .unset, .unset, .unset, .unset] [(.ref a18)])
  have V_sc := V_sc.keep K20 hsx
  refine Go.astore K (q := 48) rfl (L' := #[.val (.int x0), .val (.int x1), .val (.int x2), .val (.int x3), .val (.int pp), .val (.ref sc), .val (.ref a18), .unset, .unset, .unset]) at_46 rfl rfl ?_
  refine Go.iload K (q := 50) rfl at_48 rfl ?_
  refine Go.bipush K (q := 52) rfl (v := (7 : Int32)) (by decide) at_50 ?_
  refine Go.iand K (q := 53) rfl at_52 ?_
  refine Go.iconst K (q := 54) rfl (v := (5 : Int32)) (by decide) at_53 ?_
  refine Go.irem K (q := 55) rfl at_54 (by decide) ?_
  generalize ef23 : ((pp &&& (7 : Int32)) % (5 : Int32)) = f23
  refine Go.istore K (q := 57) rfl (L' := #[.val (.int x0), .val (.int x1), .val (.int x2), .val (.int x3), .val (.int pp), .val (.ref sc), .val (.ref a18), .val (.int f23), .unset, .unset]) at_55 rfl ?_
  refine Go.iload K (q := 59) rfl at_57 rfl ?_
  refine Go.iconst K (q := 60) rfl (v := (3 : Int32)) (by decide) at_59 ?_
  refine Go.iushr K (q := 61) rfl at_60 ?_
  refine Go.bipush K (q := 63) rfl (v := (7 : Int32)) (by decide) at_61 ?_
  refine Go.iand K (q := 64) rfl at_63 ?_
  refine Go.iconst K (q := 65) rfl (v := (5 : Int32)) (by decide) at_64 ?_
  refine Go.irem K (q := 66) rfl at_65 (by decide) ?_
  generalize et24 : ((((pp.toUInt32 >>> ((3 : Int32) &&& 31).toUInt32).toInt32) &&& (7 : Int32)) % (5 : Int32)) = t24
  refine Go.istore K (q := 68) rfl (L' := #[.val (.int x0), .val (.int x1), .val (.int x2), .val (.int x3), .val (.int pp), .val (.ref sc), .val (.ref a18), .val (.int f23), .val (.int t24), .unset]) at_66 rfl ?_
  refine Go.iload K (q := 70) rfl at_68 rfl ?_
  refine Go.iload K (q := 72) rfl at_70 rfl ?_
  show Go p l e _ s m _ below meth c _ _ _ _ h21 4 20 (mkF m 72 #[.val (.int x0), .val (.int x1), .val (.int x2), .val (.int x3), .val (.int pp), .val (.ref sc), .val (.ref a18), .val (.int f23), .val (.int t24), .unset] [(.int t24), (.int f23)])
  have hf := own_five ef23
  have ht := own_five et24
  have key : Go p l e room_1 s m #[(.int x0), (.int x1), (.int x2), (.int x3), (.int pp)] below meth c n0 room_1.cells room_1.slots (fun v h' => v = some (.int 1)) h21 4 20 (mkF m 140 #[.val (.int x0), .val (.int x1), .val (.int x2), .val (.int x3), .val (.int pp), .val (.ref sc), .val (.ref a18), .val (.int f23), .val (.int t24), .unset] [(.int (own_ex f23 t24 c0 c1 c2 c3))]) := by
    refine Go.istore K (q := 142) rfl (L' := #[.val (.int x0), .val (.int x1), .val (.int x2), .val (.int x3), .val (.int pp), .val (.ref sc), .val (.ref a18), .val (.int f23), .val (.int t24), .val (.int (own_ex f23 t24 c0 c1 c2 c3))]) at_140 rfl ?_
    refine Go.aload K (q := 144) rfl at_142 rfl rfl ?_
    refine Go.iload K (q := 146) rfl at_144 rfl ?_
    refine Go.iload K (q := 148) rfl at_146 rfl ?_
    refine Go.cS K (q := 151) rfl (y := (⟨"com/example/overplan/overplan/util/PlainNumber", "isDigits", "(Ljava/lang/String;II)Z"⟩ : MethodName)) (c_is l Z a0 hw n0 h21 (Nat.le_trans Z0 E0.1) a18 f23 t24 c0 c1 c2 c3 r0 r1 r2 r3 hf (own_le4 ht) S0 (SD.ext E0) (SH.ext E0) (SL.ext E0) z (Sa.ext E0) hz fm rf (Sf.ext E0)) (hw _ (List.mem_of_getElem? (i := 36) rfl)) (hw _ (List.mem_of_getElem? (i := 37) rfl)) (hw _ (List.mem_of_getElem? (i := 38) rfl)) (hw _ (List.mem_of_getElem? (i := 39) rfl)) (by decide) pd16 (argsL := [(.ref a18), (.int f23), (.int t24)]) (rest := []) rfl rfl rfl rfl (W := 0) (Nat.le_of_eq rfl) (by decide) (by decide) at_148 (cells' := 4) (slots' := 20) rfl rfl (by decide) (by decide) ?_
    intro r26 h25 hQ
    obtain ⟨rfl, rfl⟩ := hQ
    show Go p l e _ s m _ below meth c _ _ _ _ h21 4 20 (mkF m 151 #[.val (.int x0), .val (.int x1), .val (.int x2), .val (.int x3), .val (.int pp), .val (.ref sc), .val (.ref a18), .val (.int f23), .val (.int t24), .val (.int (own_ex f23 t24 c0 c1 c2 c3))] [(.int (own_is f23 t24 c0 c1 c2 c3))])
    refine Go.iload K (q := 153) rfl at_151 rfl ?_
    refine Go.icmpN K (q := 156) rfl at_153 (show (own_is f23 t24 c0 c1 c2 c3) = (own_ex f23 t24 c0 c1 c2 c3) from (own_agree hf ht)) ?_
    refine Go.iconst K (q := 157) rfl (v := (1 : Int32)) (by decide) at_156 ?_
    refine Go.goto K (q := 161) (by decide) (by decide) at_157 ?_
    exact Go.retN K (by simp) at_161 (by decide) (by decide) (rfl)
  refine Go.icmp K (q := 139) (q' := 75) (by decide) (by decide) rfl at_72 (fun (gf : ¬ f23 < t24) => ?_) (fun (gf : f23 < t24) => ?_)
  · skip
    refine Go.iconst K (q := 140) rfl (v := (0 : Int32)) (by decide) at_139 ?_
    have e : own_ex f23 t24 c0 c1 c2 c3 = 0 := by rw [own_ex, if_neg gf]
    rw [e] at key
    exact key
  · skip
    refine Go.iconst K (q := 76) rfl (v := (0 : Int32)) (by decide) at_75 ?_
    refine Go.iload K (q := 78) rfl at_76 rfl ?_
    refine Go.iload K (q := 80) rfl at_78 rfl ?_
    refine Go.aload K (q := 82) rfl at_80 rfl rfl ?_
    refine Go.iconst K (q := 83) rfl (v := (0 : Int32)) (by decide) at_82 ?_
    refine Go.caload K (q := 84) rfl V_sc at_83 ⟨by decide, by decide⟩ (v := (.int c0)) rfl ?_
    show Go p l e _ s m _ below meth c _ _ _ _ h21 4 20 (mkF m 84 #[.val (.int x0), .val (.int x1), .val (.int x2), .val (.int x3), .val (.int pp), .val (.ref sc), .val (.ref a18), .val (.int f23), .val (.int t24), .unset] [(.int c0), (.int t24), (.int f23), (.int (0 : Int32))])
    refine Go.cS K (q := 87) rfl (y := (⟨"com/example/overplan/overplan/util/PlainNumberIsDigitsPinLaw", "ok", "(IIIC)Z"⟩ : MethodName)) (c_ok l Z a0 hw n0 h21 (Nat.le_trans Z0 E0.1) (0 : Int32) f23 t24 c0) (hw _ (List.mem_of_getElem? (i := 59) rfl)) (hw _ (List.mem_of_getElem? (i := 60) rfl)) (hw _ (List.mem_of_getElem? (i := 3) rfl)) (hw _ (List.mem_of_getElem? (i := 61) rfl)) (by decide) pd17 (argsL := [(.int (0 : Int32)), (.int f23), (.int t24), (.int c0)]) (rest := []) rfl rfl rfl rfl (W := 0) (Nat.le_of_eq rfl) (by decide) (by decide) at_84 (cells' := 4) (slots' := 20) rfl rfl (by decide) (by decide) ?_
    intro r28 h27 hQ
    obtain ⟨rfl, rfl⟩ := hQ
    show Go p l e _ s m _ below meth c _ _ _ _ h21 4 20 (mkF m 87 #[.val (.int x0), .val (.int x1), .val (.int x2), .val (.int x3), .val (.int pp), .val (.ref sc), .val (.ref a18), .val (.int f23), .val (.int t24), .unset] [(.int (own_ok (0 : Int32) f23 t24 c0))])
    rcases own_ok01 (0 : Int32) f23 t24 c0 with o0 | o0
    · skip
      refine Go.ifY K (q := 139) (by decide) (by decide) at_87 (show (own_ok (0 : Int32) f23 t24 c0) = (0 : Int32) from o0) ?_
      refine Go.iconst K (q := 140) rfl (v := (0 : Int32)) (by decide) at_139 ?_
      have e : own_ex f23 t24 c0 c1 c2 c3 = 0 := by rw [own_ex, if_pos gf, if_pos o0]
      rw [e] at key
      exact key
    · skip
      refine Go.ifN K (q := 90) rfl at_87 (show ¬ (own_ok (0 : Int32) f23 t24 c0) = (0 : Int32) from (by rw [o0]; decide)) ?_
      refine Go.iconst K (q := 91) rfl (v := (1 : Int32)) (by decide) at_90 ?_
      refine Go.iload K (q := 93) rfl at_91 rfl ?_
      refine Go.iload K (q := 95) rfl at_93 rfl ?_
      refine Go.aload K (q := 97) rfl at_95 rfl rfl ?_
      refine Go.iconst K (q := 98) rfl (v := (1 : Int32)) (by decide) at_97 ?_
      refine Go.caload K (q := 99) rfl V_sc at_98 ⟨by decide, by decide⟩ (v := (.int c1)) rfl ?_
      show Go p l e _ s m _ below meth c _ _ _ _ h21 4 20 (mkF m 99 #[.val (.int x0), .val (.int x1), .val (.int x2), .val (.int x3), .val (.int pp), .val (.ref sc), .val (.ref a18), .val (.int f23), .val (.int t24), .unset] [(.int c1), (.int t24), (.int f23), (.int (1 : Int32))])
      refine Go.cS K (q := 102) rfl (y := (⟨"com/example/overplan/overplan/util/PlainNumberIsDigitsPinLaw", "ok", "(IIIC)Z"⟩ : MethodName)) (c_ok l Z a0 hw n0 h21 (Nat.le_trans Z0 E0.1) (1 : Int32) f23 t24 c1) (hw _ (List.mem_of_getElem? (i := 59) rfl)) (hw _ (List.mem_of_getElem? (i := 60) rfl)) (hw _ (List.mem_of_getElem? (i := 3) rfl)) (hw _ (List.mem_of_getElem? (i := 61) rfl)) (by decide) pd17 (argsL := [(.int (1 : Int32)), (.int f23), (.int t24), (.int c1)]) (rest := []) rfl rfl rfl rfl (W := 0) (Nat.le_of_eq rfl) (by decide) (by decide) at_99 (cells' := 4) (slots' := 20) rfl rfl (by decide) (by decide) ?_
      intro r30 h29 hQ
      obtain ⟨rfl, rfl⟩ := hQ
      show Go p l e _ s m _ below meth c _ _ _ _ h21 4 20 (mkF m 102 #[.val (.int x0), .val (.int x1), .val (.int x2), .val (.int x3), .val (.int pp), .val (.ref sc), .val (.ref a18), .val (.int f23), .val (.int t24), .unset] [(.int (own_ok (1 : Int32) f23 t24 c1))])
      rcases own_ok01 (1 : Int32) f23 t24 c1 with o1 | o1
      · skip
        refine Go.ifY K (q := 139) (by decide) (by decide) at_102 (show (own_ok (1 : Int32) f23 t24 c1) = (0 : Int32) from o1) ?_
        refine Go.iconst K (q := 140) rfl (v := (0 : Int32)) (by decide) at_139 ?_
        have e : own_ex f23 t24 c0 c1 c2 c3 = 0 := by rw [own_ex, if_pos gf, if_neg (by rw [o0]; decide), if_pos o1]
        rw [e] at key
        exact key
      · skip
        refine Go.ifN K (q := 105) rfl at_102 (show ¬ (own_ok (1 : Int32) f23 t24 c1) = (0 : Int32) from (by rw [o1]; decide)) ?_
        refine Go.iconst K (q := 106) rfl (v := (2 : Int32)) (by decide) at_105 ?_
        refine Go.iload K (q := 108) rfl at_106 rfl ?_
        refine Go.iload K (q := 110) rfl at_108 rfl ?_
        refine Go.aload K (q := 112) rfl at_110 rfl rfl ?_
        refine Go.iconst K (q := 113) rfl (v := (2 : Int32)) (by decide) at_112 ?_
        refine Go.caload K (q := 114) rfl V_sc at_113 ⟨by decide, by decide⟩ (v := (.int c2)) rfl ?_
        show Go p l e _ s m _ below meth c _ _ _ _ h21 4 20 (mkF m 114 #[.val (.int x0), .val (.int x1), .val (.int x2), .val (.int x3), .val (.int pp), .val (.ref sc), .val (.ref a18), .val (.int f23), .val (.int t24), .unset] [(.int c2), (.int t24), (.int f23), (.int (2 : Int32))])
        refine Go.cS K (q := 117) rfl (y := (⟨"com/example/overplan/overplan/util/PlainNumberIsDigitsPinLaw", "ok", "(IIIC)Z"⟩ : MethodName)) (c_ok l Z a0 hw n0 h21 (Nat.le_trans Z0 E0.1) (2 : Int32) f23 t24 c2) (hw _ (List.mem_of_getElem? (i := 59) rfl)) (hw _ (List.mem_of_getElem? (i := 60) rfl)) (hw _ (List.mem_of_getElem? (i := 3) rfl)) (hw _ (List.mem_of_getElem? (i := 61) rfl)) (by decide) pd17 (argsL := [(.int (2 : Int32)), (.int f23), (.int t24), (.int c2)]) (rest := []) rfl rfl rfl rfl (W := 0) (Nat.le_of_eq rfl) (by decide) (by decide) at_114 (cells' := 4) (slots' := 20) rfl rfl (by decide) (by decide) ?_
        intro r32 h31 hQ
        obtain ⟨rfl, rfl⟩ := hQ
        show Go p l e _ s m _ below meth c _ _ _ _ h21 4 20 (mkF m 117 #[.val (.int x0), .val (.int x1), .val (.int x2), .val (.int x3), .val (.int pp), .val (.ref sc), .val (.ref a18), .val (.int f23), .val (.int t24), .unset] [(.int (own_ok (2 : Int32) f23 t24 c2))])
        rcases own_ok01 (2 : Int32) f23 t24 c2 with o2 | o2
        · skip
          refine Go.ifY K (q := 139) (by decide) (by decide) at_117 (show (own_ok (2 : Int32) f23 t24 c2) = (0 : Int32) from o2) ?_
          refine Go.iconst K (q := 140) rfl (v := (0 : Int32)) (by decide) at_139 ?_
          have e : own_ex f23 t24 c0 c1 c2 c3 = 0 := by rw [own_ex, if_pos gf, if_neg (by rw [o0]; decide), if_neg (by rw [o1]; decide), if_pos o2]
          rw [e] at key
          exact key
        · skip
          refine Go.ifN K (q := 120) rfl at_117 (show ¬ (own_ok (2 : Int32) f23 t24 c2) = (0 : Int32) from (by rw [o2]; decide)) ?_
          refine Go.iconst K (q := 121) rfl (v := (3 : Int32)) (by decide) at_120 ?_
          refine Go.iload K (q := 123) rfl at_121 rfl ?_
          refine Go.iload K (q := 125) rfl at_123 rfl ?_
          refine Go.aload K (q := 127) rfl at_125 rfl rfl ?_
          refine Go.iconst K (q := 128) rfl (v := (3 : Int32)) (by decide) at_127 ?_
          refine Go.caload K (q := 129) rfl V_sc at_128 ⟨by decide, by decide⟩ (v := (.int c3)) rfl ?_
          show Go p l e _ s m _ below meth c _ _ _ _ h21 4 20 (mkF m 129 #[.val (.int x0), .val (.int x1), .val (.int x2), .val (.int x3), .val (.int pp), .val (.ref sc), .val (.ref a18), .val (.int f23), .val (.int t24), .unset] [(.int c3), (.int t24), (.int f23), (.int (3 : Int32))])
          refine Go.cS K (q := 132) rfl (y := (⟨"com/example/overplan/overplan/util/PlainNumberIsDigitsPinLaw", "ok", "(IIIC)Z"⟩ : MethodName)) (c_ok l Z a0 hw n0 h21 (Nat.le_trans Z0 E0.1) (3 : Int32) f23 t24 c3) (hw _ (List.mem_of_getElem? (i := 59) rfl)) (hw _ (List.mem_of_getElem? (i := 60) rfl)) (hw _ (List.mem_of_getElem? (i := 3) rfl)) (hw _ (List.mem_of_getElem? (i := 61) rfl)) (by decide) pd17 (argsL := [(.int (3 : Int32)), (.int f23), (.int t24), (.int c3)]) (rest := []) rfl rfl rfl rfl (W := 0) (Nat.le_of_eq rfl) (by decide) (by decide) at_129 (cells' := 4) (slots' := 20) rfl rfl (by decide) (by decide) ?_
          intro r34 h33 hQ
          obtain ⟨rfl, rfl⟩ := hQ
          show Go p l e _ s m _ below meth c _ _ _ _ h21 4 20 (mkF m 132 #[.val (.int x0), .val (.int x1), .val (.int x2), .val (.int x3), .val (.int pp), .val (.ref sc), .val (.ref a18), .val (.int f23), .val (.int t24), .unset] [(.int (own_ok (3 : Int32) f23 t24 c3))])
          rcases own_ok01 (3 : Int32) f23 t24 c3 with o3 | o3
          · skip
            refine Go.ifY K (q := 139) (by decide) (by decide) at_132 (show (own_ok (3 : Int32) f23 t24 c3) = (0 : Int32) from o3) ?_
            refine Go.iconst K (q := 140) rfl (v := (0 : Int32)) (by decide) at_139 ?_
            have e : own_ex f23 t24 c0 c1 c2 c3 = 0 := by rw [own_ex, if_pos gf, if_neg (by rw [o0]; decide), if_neg (by rw [o1]; decide), if_neg (by rw [o2]; decide), if_pos o3]
            rw [e] at key
            exact key
          · skip
            refine Go.ifN K (q := 135) rfl at_132 (show ¬ (own_ok (3 : Int32) f23 t24 c3) = (0 : Int32) from (by rw [o3]; decide)) ?_
            refine Go.iconst K (q := 136) rfl (v := (1 : Int32)) (by decide) at_135 ?_
            refine Go.goto K (q := 140) (by decide) (by decide) at_136 ?_
            have e : own_ex f23 t24 c0 c1 c2 c3 = 1 := by rw [own_ex, if_pos gf, if_neg (by rw [o0]; decide), if_neg (by rw [o1]; decide), if_neg (by rw [o2]; decide), if_neg (by rw [o3]; decide)]
            rw [e] at key
            exact key
set_option maxRecDepth 65536 in
set_option maxHeartbeats 40000000 in
theorem comes_1 {Post : Tables → Env → Array Value → State → Outcome → State → Prop} (hpost : ∀ tb e args s v u, (limb_1_1.after args s (.returned v) u = true ∧ limb_1_2.after args s (.returned v) u = true ∧ True) → FrameEnd s (.returned v) u (Jvm.fieldLocs frame_1_writes args s ++ Jvm.arrayLocs frame_1_arrays args s ++ Jvm.staticLocs frame_1_statics s) 16 128 → Post tb e args s (.returned v) u) :
    ArmFor flags0 classFile x code maxLocals ret World_1 tables_1 room_1 Calls_1 rest_1 Pre_1 Post := by
  intro l hfl _ _ p e ha hc hk s m args below hf hA hF happ hP
  obtain ⟨hcalls, hrest, hpre⟩ := hP
  obtain ⟨-, -, -, hnamed, -, -, -, hat⟩ := (Spec.applies_iff hf).mp happ
  obtain ⟨hg, hn⟩ := and_e (Cond.before_iff.mp (show (Jvm.Cond.and given_1 narrow_1).before args s = true from hpre))
  obtain ⟨h1, k0⟩ := and_e hg
  obtain ⟨g0, k1⟩ := and_e k0
  obtain ⟨g1, k2⟩ := and_e k1
  obtain ⟨g2, k3⟩ := and_e k2
  obtain ⟨g3, k4⟩ := and_e k3
  obtain ⟨w0, w1, w2, w3, w4, rfl⟩ : ∃ w0 w1 w2 w3 w4 : Value, args = #[w0, w1, w2, w3, w4] := by
    have hs : args.size = 5 := by simpa [Cond.value, given_1] using h1
    obtain ⟨L⟩ := args
    match L, hs with
    | [w0, w1, w2, w3, w4], _ => exact ⟨w0, w1, w2, w3, w4, rfl⟩
  have hw := fun d (hd : d ∈ tables_1) => atoms_spec (ws := Jvm.Cond.code x code maxLocals ret :: tables_1) hat d (List.mem_cons_of_mem _ hd)
  obtain ⟨hsets, hown0⟩ := atoms_of _ (rest_1_c_eq ▸ (show rest_1_c.before _ s = true from hrest))
  have hfit : Fit s := fun {y c} hc i hi => by
    obtain ⟨ha, rfl⟩ := Array.getElem?_eq_some_iff.mp hc
    have q := List.all_eq_true.mp ((Array.all_eq_true_iff_forall_mem.mp hF) _ (Array.getElem_mem ha)) i (List.mem_range.mpr hi)
    simpa [Array.getElem?_eq_getElem hi] using q
  obtain ⟨i0, q0⟩ := is_v g0
  obtain rfl : w0 = (.int i0) := Option.some.inj q0
  obtain ⟨i1, q1⟩ := is_v g1
  obtain rfl : w1 = (.int i1) := Option.some.inj q1
  obtain ⟨i2, q2⟩ := is_v g2
  obtain rfl : w2 = (.int i2) := Option.some.inj q2
  obtain ⟨i3, q3⟩ := is_v g3
  obtain rfl : w3 = (.int i3) := Option.some.inj q3
  obtain ⟨i4, q4⟩ := is_v k4
  obtain rfl : w4 = (.int i4) := Option.some.inj q4
  have n5 := not_v (Cond.before_iff.mp (hsets _ (List.mem_of_getElem? (i := 2) rfl)))
  obtain ⟨zs, ez⟩ := is_v (Cond.before_iff.mp (hsets _ (List.mem_of_getElem? (i := 1) rfl)))
  have Sa : Sta s s.heap "java/lang/String" "COMPACT_STRINGS" "Z" (.int zs) := Sta.start ez (Or.inl (hsets _ (List.mem_of_getElem? (i := 0) rfl)))
  have hz : ¬ (zs = (0 : Int32)) := gotF (Cond.eq_ints ez (Term.int_eval (0))) n5
  have SD : Sta s s.heap "java/lang/StringUTF16" "$assertionsDisabled" "Z" (.int 1) := Sta.start (Cond.eq_int (hsets _ (List.mem_of_getElem? (i := 12) rfl)) rfl) (Or.inl (hsets _ (List.mem_of_getElem? (i := 11) rfl)))
  have SH : Sta s s.heap "java/lang/StringUTF16" "HI_BYTE_SHIFT" "I" (.int 0) := Sta.start (Cond.eq_int (hsets _ (List.mem_of_getElem? (i := 15) rfl)) rfl) (Or.inl (hsets _ (List.mem_of_getElem? (i := 14) rfl)))
  have SL : Sta s s.heap "java/lang/StringUTF16" "LO_BYTE_SHIFT" "I" (.int 8) := Sta.start (Cond.eq_int (hsets _ (List.mem_of_getElem? (i := 18) rfl)) rfl) (Or.inl (hsets _ (List.mem_of_getElem? (i := 17) rfl)))
  obtain ⟨fm, efm, rf⟩ := isR_v (Cond.before_iff.mp (hsets _ (List.mem_of_getElem? (i := 8) rfl)))
  have Sf : Sta s s.heap "jdk/internal/util/Preconditions" "SIOOBE_FORMATTER" "Ljava/util/function/BiFunction;" fm := Sta.start efm (Or.inl (hsets _ (List.mem_of_getElem? (i := 7) rfl)))
  obtain ⟨n, o, h1, h2, h3, _, L, rfl, ⟨rfl, N⟩, hq⟩ := rm0 l s _ hw tables_1 s.heap.size s.heap (Nat.le_refl _) i0 i1 i2 i3 i4 zs Sa hz SD SH SL fm rf Sf p e ha hc hk s m _ below hf ((Spec.applies_iff_loose hf).mp happ).1 ⟨rfl, State.Warmed39.refl s, rfl⟩ trivial
  refine ⟨n, _, h1, h2, h3, hpost _ _ _ _ _ _ ⟨Cond.after_iff.mpr rfl, Cond.after_iff.mpr (eq_i res_at (Term.int_eval (1)) rfl), trivial⟩ ⟨hq.1, hq.2.1, (hq.2.2.sift fun y hy => Or.inr (N y hy)).mono (by decide) (by decide)⟩⟩
theorem main_1_1 : Claimed_1_1 := comes_1 fun _ _ _ _ _ _ h hF => ⟨h.1, hF⟩
theorem main_1_2 : Claimed_1_2 := comes_1 fun _ _ _ _ _ _ h hF => ⟨h.2.1, hF⟩
end Jvm.Pilot.@@N@@
namespace Jvm.Pilot.@@N@@
open Jvm Jvm.ClassFile Sem Op Lib Jvm.Free Jvm.Stand Jvm.Pilot.@@N@@.Jvm.D
/-! MADE BY PROGRAM (witnessworld.py) out of the Statement's table words and the real class files: 20 classes; the members and pool entries that the words name. The judged class is class 1, her method 4. -/
namespace start1
open Jvm.ClassFile
def u (s : String) : CpInfo := .utf8 (stringToUtf16 s)
/-- a pool by its gaps: so many unusable entries, then the entry; so many at the end -/
def gap : Nat → List CpInfo → List CpInfo
  | 0, r => r
  | n + 1, r => .unusable :: gap n r
def poolList (es : List (Nat × CpInfo)) (last : Nat) : List CpInfo := es.foldr (fun e r => gap e.1 (e.2 :: r)) (gap last [])
def pool (es : List (Nat × CpInfo)) (last : Nat) : Array CpInfo := ⟨poolList es last⟩
def fileOf (pool : Array CpInfo) (this : Nat) (attrs : Array Attribute := #[]) (ms : Array MethodInfo := #[]) (fl : Nat := 33) (sup : Nat := 0) (ifs : Array Nat := #[]) (fds : Array FieldInfo := #[]) : ClassFile where
  minorVersion := 0
  majorVersion := 65
  constantPool := pool
  accessFlags := fl
  thisClass := this
  superClass := sup
  interfaces := ifs
  fields := fds
  methods := ms
  attributes := attrs
def plain (name : String) (sup : Option ClassId) : Class where
  name := name
  kind := .ordinary
  loader := none
  accessFlags := 33
  super := sup
  interfaces := #[]
  cf := none
  fields := #[]
  methods := #[]
  instanceTypes := #[]
  staticTypes := #[]
  resolved := #[]
  callSites := []
  init := .initialized
  statics := none
  mirror := none

def pool0 : Array CpInfo := pool [(5, u "<init>"), (0, u "()V"), (1, .class_ 10), (1, u "java/lang/Object")] 113

def k0c0 : Code := { maxStack := 0, maxLocals := 1, code := object_method_1_code, exceptionTable := #[], attributes := #[] }
def k0m0 : Method := { name := "<init>", desc := "()V", sig := { parameters := [], returnType := none }, accessFlags := 1, code := some k0c0 }
/-- java/lang/Object -/
def k0 : Class := { plain "java/lang/Object" none with
  accessFlags := 33
  interfaces := #[]
  cf := some (fileOf pool0 8 #[] #[{ accessFlags := 1, nameIndex := 5, descriptorIndex := 6, attributes := #[] }] 33 0 #[] #[])
  fields := #[]
  methods := #[k0m0]
  instanceTypes := #[]
  staticTypes := #[]
  resolved := Array.replicate 124 none
  statics := none }

def pool1 : Array CpInfo := pool [(2, .class_ 4), (1, u "java/lang/Object"), (0, u "<init>"), (0, u "()V"), (0, .integer 65536), (0, .integer 65535), (0, .methodref 10 11), (0, .class_ 12), (0, .nameAndType 13 14), (0, u "com/example/overplan/overplan/util/PlainNumberIsDigitsPinLaw"), (0, u "digit"), (0, u "(C)Z"), (0, .methodref 10 16), (0, .nameAndType 17 18), (0, u "draw"), (0, u "(I)C"), (0, .class_ 20), (0, u "java/lang/String"), (0, .methodref 19 22), (0, .nameAndType 5 23), (0, u "([C)V"), (0, .methodref 10 25), (0, .nameAndType 26 27), (0, u "ok"), (0, u "(IIIC)Z"), (0, .methodref 29 30), (0, .class_ 31), (0, .nameAndType 32 33), (0, u "com/example/overplan/overplan/util/PlainNumber"), (0, u "isDigits"), (0, u "(Ljava/lang/String;II)Z"), (3, u "law"), (0, u "(IIIII)Z")] 4

def k1m0 : Method := { name := "<init>", desc := "()V", sig := { parameters := [], returnType := none }, accessFlags := 2, code := none }
def k1c1 : Code := { maxStack := 3, maxLocals := 1, code := method_2_code, exceptionTable := #[], attributes := #[] }
def k1m1 : Method := { name := "draw", desc := "(I)C", sig := { parameters := [.int], returnType := some .char }, accessFlags := 10, code := some k1c1 }
def k1c2 : Code := { maxStack := 2, maxLocals := 1, code := method_3_code, exceptionTable := #[], attributes := #[] }
def k1m2 : Method := { name := "digit", desc := "(C)Z", sig := { parameters := [.char], returnType := some .boolean }, accessFlags := 10, code := some k1c2 }
def k1c3 : Code := { maxStack := 2, maxLocals := 4, code := method_4_code, exceptionTable := #[], attributes := #[] }
def k1m3 : Method := { name := "ok", desc := "(IIIC)Z", sig := { parameters := [.int, .int, .int, .char], returnType := some .boolean }, accessFlags := 10, code := some k1c3 }
def k1c4 : Code := { maxStack := 5, maxLocals := 10, code := code, exceptionTable := #[], attributes := #[] }
def k1m4 : Method := { name := "law", desc := "(IIIII)Z", sig := { parameters := [.int, .int, .int, .int, .int], returnType := some .boolean }, accessFlags := 9, code := some k1c4 }
/-- com/example/overplan/overplan/util/PlainNumberIsDigitsPinLaw -/
def k1 : Class := { plain "com/example/overplan/overplan/util/PlainNumberIsDigitsPinLaw" (some 0) with
  accessFlags := 49
  interfaces := #[]
  cf := some (fileOf pool1 10 #[] #[{ accessFlags := 2, nameIndex := 5, descriptorIndex := 6, attributes := #[] }, { accessFlags := 10, nameIndex := 17, descriptorIndex := 18, attributes := #[] }, { accessFlags := 10, nameIndex := 13, descriptorIndex := 14, attributes := #[] }, { accessFlags := 10, nameIndex := 26, descriptorIndex := 27, attributes := #[] }, { accessFlags := 9, nameIndex := 37, descriptorIndex := 38, attributes := #[] }] 49 2 #[] #[])
  fields := #[]
  methods := #[k1m0, k1m1, k1m2, k1m3, k1m4]
  instanceTypes := #[]
  staticTypes := #[]
  resolved := Array.replicate 43 none
  statics := none }

def pool2 : Array CpInfo := pool [(1, .class_ 2), (0, u "java/io/Serializable"), (0, .class_ 4), (0, u "java/lang/Object")] 2

/-- java/io/Serializable -/
def k2 : Class := { plain "java/io/Serializable" (some 0) with
  accessFlags := 1537
  interfaces := #[]
  cf := some (fileOf pool2 1 #[] #[] 1537 3 #[] #[])
  fields := #[]
  methods := #[]
  instanceTypes := #[]
  staticTypes := #[]
  resolved := Array.replicate 7 none
  statics := none }

def pool3 : Array CpInfo := pool [(1, .class_ 2), (0, u "java/lang/Comparable"), (0, .class_ 4), (0, u "java/lang/Object")] 7

/-- java/lang/Comparable -/
def k3 : Class := { plain "java/lang/Comparable" (some 0) with
  accessFlags := 1537
  interfaces := #[]
  cf := some (fileOf pool3 1 #[] #[] 1537 3 #[] #[])
  fields := #[]
  methods := #[]
  instanceTypes := #[]
  staticTypes := #[]
  resolved := Array.replicate 12 none
  statics := none }

def pool4 : Array CpInfo := pool [(2, .class_ 4), (1, u "java/lang/CharSequence"), (42, .class_ 48), (0, u "java/lang/CharSequence$1CodePointIterator"), (10, .class_ 60), (0, u "java/lang/CharSequence$1CharIterator"), (5, .class_ 67), (0, u "java/lang/Object")] 63

/-- java/lang/CharSequence -/
def k4 : Class := { plain "java/lang/CharSequence" (some 0) with
  accessFlags := 1537
  interfaces := #[]
  cf := some (fileOf pool4 2 #[.nestMembers #[47, 59]] #[] 1537 66 #[] #[])
  fields := #[]
  methods := #[]
  instanceTypes := #[]
  staticTypes := #[]
  resolved := Array.replicate 131 none
  statics := none }

def pool5 : Array CpInfo := pool [(1, .class_ 2), (0, u "java/lang/constant/Constable"), (0, .class_ 4), (0, u "java/lang/Object")] 6

/-- java/lang/constant/Constable -/
def k5 : Class := { plain "java/lang/constant/Constable" (some 0) with
  accessFlags := 1537
  interfaces := #[]
  cf := some (fileOf pool5 1 #[] #[] 1537 3 #[] #[])
  fields := #[]
  methods := #[]
  instanceTypes := #[]
  staticTypes := #[]
  resolved := Array.replicate 11 none
  statics := none }

def pool6 : Array CpInfo := pool [(1, .class_ 2), (0, u "java/lang/constant/ConstantDesc"), (0, .class_ 4), (0, u "java/lang/Object")] 32

/-- java/lang/constant/ConstantDesc -/
def k6 : Class := { plain "java/lang/constant/ConstantDesc" (some 0) with
  accessFlags := 1537
  interfaces := #[]
  cf := some (fileOf pool6 1 #[] #[] 1537 3 #[] #[])
  fields := #[]
  methods := #[]
  instanceTypes := #[]
  staticTypes := #[]
  resolved := Array.replicate 37 none
  statics := none }

def pool7 : Array CpInfo := pool [(1, .methodref 2 3), (0, .class_ 4), (0, .nameAndType 5 6), (0, u "java/lang/Object"), (0, u "<init>"), (0, u "()V"), (2, .fieldref 10 11), (0, .class_ 12), (0, .nameAndType 13 14), (0, u "java/lang/String"), (0, u "value"), (0, u "[B"), (0, .fieldref 10 16), (0, .nameAndType 17 18), (0, u "coder"), (0, u "B"), (2, u "hash"), (0, u "I"), (2, u "hashIsZero"), (0, u "Z"), (0, .methodref 10 28), (0, .nameAndType 5 29), (0, u "([CIILjava/lang/Void;)V"), (8, .fieldref 10 39), (0, .nameAndType 40 26), (0, u "COMPACT_STRINGS"), (1, .class_ 44), (1, u "java/lang/StringUTF16"), (0, u "compress"), (1, .methodref 42 48), (0, .nameAndType 49 50), (0, u "coderFromArrayLen"), (0, u "([BI)B"), (56, .class_ 109), (1, u "java/lang/StringLatin1"), (32, u "()Z"), (34, .methodref 42 178), (0, .nameAndType 45 179), (0, u "([CII)[B"), (183, u "([BI)C"), (27, u "(II)V"), (35, u "(I)C"), (64, .methodref 10 493), (0, .nameAndType 494 142), (0, u "isLatin1"), (0, .methodref 107 496), (0, .nameAndType 497 363), (0, u "charAt"), (0, .methodref 42 496), (2, u "checkIndex"), (73, .class_ 576), (0, u "java/lang/CharSequence"), (22, u "CASE_INSENSITIVE_ORDER"), (0, u "Ljava/util/Comparator;"), (409, u "([C)V"), (42, .fieldref 1054 1055), (0, .class_ 1056), (0, .nameAndType 1057 1058), (0, u "jdk/internal/util/Preconditions"), (0, u "SIOOBE_FORMATTER"), (0, u "Ljava/util/function/BiFunction;"), (0, .methodref 1054 1060), (0, .nameAndType 501 1061), (0, u "(IILjava/util/function/BiFunction;)I"), (39, u "serialPersistentFields"), (0, u "[Ljava/io/ObjectStreamField;"), (0, .class_ 1104), (0, u "java/lang/String$CaseInsensitiveComparator"), (1, .class_ 1107), (0, u "java/io/Serializable"), (0, .class_ 1109), (0, u "java/lang/Comparable"), (0, .class_ 1111), (0, u "java/lang/constant/Constable"), (0, .class_ 1113), (0, u "java/lang/constant/ConstantDesc"), (2, u "serialVersionUID"), (0, u "J"), (3, u "REPL"), (0, u "C"), (2, u "LATIN1"), (1, u "UTF16")] 323

def k7m0 : Method := { name := "<init>", desc := "()V", sig := { parameters := [], returnType := none }, accessFlags := 1, code := none }
def k7c1 : Code := { maxStack := 5, maxLocals := 2, code := jdk_42_method_3_code, exceptionTable := #[], attributes := #[] }
def k7m1 : Method := { name := "<init>", desc := "([C)V", sig := { parameters := [(.array .char)], returnType := none }, accessFlags := 1, code := some k7c1 }
def k7c2 : Code := { maxStack := 2, maxLocals := 2, code := jdk_42_method_56_code, exceptionTable := #[], attributes := #[] }
def k7m2 : Method := { name := "charAt", desc := "(I)C", sig := { parameters := [.int], returnType := some .char }, accessFlags := 1, code := some k7c2 }
def k7c3 : Code := { maxStack := 4, maxLocals := 6, code := jdk_42_method_149_code, exceptionTable := #[], attributes := #[] }
def k7m3 : Method := { name := "<init>", desc := "([CIILjava/lang/Void;)V", sig := { parameters := [(.array .char), .int, .int, (.object "java/lang/Void")], returnType := none }, accessFlags := 2, code := some k7c3 }
def k7c4 : Code := { maxStack := 1, maxLocals := 1, code := jdk_42_method_154_code, exceptionTable := #[], attributes := #[] }
def k7m4 : Method := { name := "isLatin1", desc := "()Z", sig := { parameters := [], returnType := some .boolean }, accessFlags := 0, code := some k7c4 }
def k7c5 : Code := { maxStack := 3, maxLocals := 2, code := jdk_42_method_155_code, exceptionTable := #[], attributes := #[] }
def k7m5 : Method := { name := "checkIndex", desc := "(II)V", sig := { parameters := [.int, .int], returnType := none }, accessFlags := 8, code := some k7c5 }
/-- java/lang/String -/
def k7 : Class := { plain "java/lang/String" (some 0) with
  accessFlags := 49
  interfaces := #[2, 3, 4, 5, 6]
  cf := some (fileOf pool7 10 #[.nestMembers #[1103]] #[{ accessFlags := 1, nameIndex := 5, descriptorIndex := 6, attributes := #[] }, { accessFlags := 1, nameIndex := 5, descriptorIndex := 1010, attributes := #[] }, { accessFlags := 1, nameIndex := 497, descriptorIndex := 427, attributes := #[] }, { accessFlags := 2, nameIndex := 5, descriptorIndex := 29, attributes := #[] }, { accessFlags := 0, nameIndex := 494, descriptorIndex := 142, attributes := #[] }, { accessFlags := 8, nameIndex := 501, descriptorIndex := 391, attributes := #[] }] 49 2 #[1106, 1108, 575, 1110, 1112] #[{ accessFlags := 18, nameIndex := 13, descriptorIndex := 14, attributes := #[] }, { accessFlags := 18, nameIndex := 17, descriptorIndex := 18, attributes := #[] }, { accessFlags := 2, nameIndex := 21, descriptorIndex := 22, attributes := #[] }, { accessFlags := 2, nameIndex := 25, descriptorIndex := 26, attributes := #[] }, { accessFlags := 26, nameIndex := 1116, descriptorIndex := 1117, attributes := #[] }, { accessFlags := 24, nameIndex := 40, descriptorIndex := 26, attributes := #[] }, { accessFlags := 26, nameIndex := 1101, descriptorIndex := 1102, attributes := #[] }, { accessFlags := 26, nameIndex := 1121, descriptorIndex := 1122, attributes := #[] }, { accessFlags := 25, nameIndex := 599, descriptorIndex := 600, attributes := #[] }, { accessFlags := 24, nameIndex := 1125, descriptorIndex := 18, attributes := #[] }, { accessFlags := 24, nameIndex := 1127, descriptorIndex := 18, attributes := #[] }])
  fields := #[{ name := "value", type := (.array .byte), accessFlags := 18, slot := 0, constantValue := 0 }, { name := "coder", type := .byte, accessFlags := 18, slot := 1, constantValue := 0 }, { name := "hash", type := .int, accessFlags := 2, slot := 2, constantValue := 0 }, { name := "hashIsZero", type := .boolean, accessFlags := 2, slot := 3, constantValue := 0 }, { name := "serialVersionUID", type := .long, accessFlags := 26, slot := 0, constantValue := 0 }, { name := "COMPACT_STRINGS", type := .boolean, accessFlags := 24, slot := 1, constantValue := 0 }, { name := "serialPersistentFields", type := (.array (.object "java/io/ObjectStreamField")), accessFlags := 26, slot := 2, constantValue := 0 }, { name := "REPL", type := .char, accessFlags := 26, slot := 3, constantValue := 0 }, { name := "CASE_INSENSITIVE_ORDER", type := (.object "java/util/Comparator"), accessFlags := 25, slot := 4, constantValue := 0 }, { name := "LATIN1", type := .byte, accessFlags := 24, slot := 5, constantValue := 0 }, { name := "UTF16", type := .byte, accessFlags := 24, slot := 6, constantValue := 0 }]
  methods := #[k7m0, k7m1, k7m2, k7m3, k7m4, k7m5]
  instanceTypes := #[(.array .byte), .byte, .int, .boolean]
  staticTypes := #[.long, .boolean, (.array (.object "java/io/ObjectStreamField")), .char, (.object "java/util/Comparator"), .byte, .byte]
  resolved := Array.replicate 1451 none
  statics := some 0 }

def pool8 : Array CpInfo := pool [(3, .class_ 4), (0, u "java/lang/String"), (1, .class_ 8), (1, u "java/lang/Object"), (0, u "<init>"), (0, u "()V"), (0, .methodref 12 13), (0, .class_ 14), (0, .nameAndType 15 16), (0, u "java/lang/StringUTF16"), (0, u "newBytesLength"), (0, u "(I)I"), (3, .integer 1073741823), (23, .fieldref 12 45), (0, .nameAndType 46 47), (0, u "$assertionsDisabled"), (0, u "Z"), (0, .methodref 12 49), (0, .nameAndType 50 51), (0, u "length"), (0, u "([B)I"), (7, .fieldref 12 60), (0, .nameAndType 61 62), (0, u "HI_BYTE_SHIFT"), (0, u "I"), (0, .fieldref 12 64), (0, .nameAndType 65 62), (0, u "LO_BYTE_SHIFT"), (1, .methodref 12 68), (0, .nameAndType 69 70), (0, u "checkIndex"), (0, u "(I[B)V"), (0, .methodref 12 72), (0, .nameAndType 73 74), (0, u "getChar"), (0, u "([BI)C"), (32, .methodref 12 108), (0, .nameAndType 109 110), (0, u "newBytesFor"), (0, u "(I)[B"), (0, .methodref 12 112), (0, .nameAndType 113 114), (0, u "putChar"), (0, u "([BII)V"), (0, .methodref 12 116), (0, .nameAndType 117 118), (0, u "compress"), (0, u "([CI[BII)I"), (0, .methodref 12 120), (0, .nameAndType 121 122), (0, u "toBytes"), (0, u "([CII)[B"), (138, u "coderFromArrayLen"), (0, u "([BI)B"), (106, .class_ 371), (1, u "java/lang/StringUTF16$LinesSpliterator"), (20, u "charAt"), (21, .methodref 3 415), (0, .nameAndType 69 416), (0, u "(II)V"), (13, u "MAX_LENGTH"), (196, .class_ 628), (0, u "java/lang/StringUTF16$CodePointsSpliterator"), (0, .class_ 630), (0, u "java/lang/StringUTF16$CharsSpliterator")] 4

def k8m0 : Method := { name := "<init>", desc := "()V", sig := { parameters := [], returnType := none }, accessFlags := 0, code := none }
def k8c1 : Code := { maxStack := 1, maxLocals := 1, code := jdk_52_method_2_code, exceptionTable := #[], attributes := #[] }
def k8m1 : Method := { name := "newBytesFor", desc := "(I)[B", sig := { parameters := [.int], returnType := some (.array .byte) }, accessFlags := 9, code := some k8c1 }
def k8c2 : Code := { maxStack := 4, maxLocals := 1, code := jdk_52_method_3_code, exceptionTable := #[], attributes := #[] }
def k8m2 : Method := { name := "newBytesLength", desc := "(I)I", sig := { parameters := [.int], returnType := some .int }, accessFlags := 9, code := some k8c2 }
def k8c3 : Code := { maxStack := 4, maxLocals := 3, code := jdk_52_method_4_code, exceptionTable := #[], attributes := #[] }
def k8m3 : Method := { name := "putChar", desc := "([BII)V", sig := { parameters := [(.array .byte), .int, .int], returnType := none }, accessFlags := 8, code := some k8c3 }
def k8c4 : Code := { maxStack := 3, maxLocals := 2, code := jdk_52_method_5_code, exceptionTable := #[], attributes := #[] }
def k8m4 : Method := { name := "getChar", desc := "([BI)C", sig := { parameters := [(.array .byte), .int], returnType := some .char }, accessFlags := 8, code := some k8c4 }
def k8c5 : Code := { maxStack := 2, maxLocals := 1, code := jdk_52_method_6_code, exceptionTable := #[], attributes := #[] }
def k8m5 : Method := { name := "length", desc := "([B)I", sig := { parameters := [(.array .byte)], returnType := some .int }, accessFlags := 9, code := some k8c5 }
def k8c6 : Code := { maxStack := 4, maxLocals := 5, code := jdk_52_method_14_code, exceptionTable := #[], attributes := #[] }
def k8m6 : Method := { name := "toBytes", desc := "([CII)[B", sig := { parameters := [(.array .char), .int, .int], returnType := some (.array .byte) }, accessFlags := 9, code := some k8c6 }
def k8c7 : Code := { maxStack := 2, maxLocals := 2, code := jdk_52_method_15_code, exceptionTable := #[], attributes := #[] }
def k8m7 : Method := { name := "coderFromArrayLen", desc := "([BI)B", sig := { parameters := [(.array .byte), .int], returnType := some .byte }, accessFlags := 8, code := some k8c7 }
def k8c8 : Code := { maxStack := 5, maxLocals := 6, code := jdk_52_method_16_code, exceptionTable := #[], attributes := #[] }
def k8m8 : Method := { name := "compress", desc := "([CII)[B", sig := { parameters := [(.array .char), .int, .int], returnType := some (.array .byte) }, accessFlags := 9, code := some k8c8 }
def k8c9 : Code := { maxStack := 3, maxLocals := 7, code := jdk_52_method_21_code, exceptionTable := #[], attributes := #[] }
def k8m9 : Method := { name := "compress", desc := "([CI[BII)I", sig := { parameters := [(.array .char), .int, (.array .byte), .int, .int], returnType := some .int }, accessFlags := 9, code := some k8c9 }
def k8c10 : Code := { maxStack := 2, maxLocals := 2, code := jdk_52_method_83_code, exceptionTable := #[], attributes := #[] }
def k8m10 : Method := { name := "charAt", desc := "([BI)C", sig := { parameters := [(.array .byte), .int], returnType := some .char }, accessFlags := 9, code := some k8c10 }
def k8c11 : Code := { maxStack := 2, maxLocals := 2, code := jdk_52_method_91_code, exceptionTable := #[], attributes := #[] }
def k8m11 : Method := { name := "checkIndex", desc := "(I[B)V", sig := { parameters := [.int, (.array .byte)], returnType := none }, accessFlags := 9, code := some k8c11 }
/-- java/lang/StringUTF16 -/
def k8 : Class := { plain "java/lang/StringUTF16" (some 0) with
  accessFlags := 48
  interfaces := #[]
  cf := some (fileOf pool8 12 #[.nestMembers #[627, 629, 369]] #[{ accessFlags := 0, nameIndex := 9, descriptorIndex := 10, attributes := #[] }, { accessFlags := 9, nameIndex := 109, descriptorIndex := 110, attributes := #[] }, { accessFlags := 9, nameIndex := 15, descriptorIndex := 16, attributes := #[] }, { accessFlags := 8, nameIndex := 113, descriptorIndex := 114, attributes := #[] }, { accessFlags := 8, nameIndex := 73, descriptorIndex := 74, attributes := #[] }, { accessFlags := 9, nameIndex := 50, descriptorIndex := 51, attributes := #[] }, { accessFlags := 9, nameIndex := 121, descriptorIndex := 122, attributes := #[] }, { accessFlags := 8, nameIndex := 261, descriptorIndex := 262, attributes := #[] }, { accessFlags := 9, nameIndex := 117, descriptorIndex := 122, attributes := #[] }, { accessFlags := 9, nameIndex := 117, descriptorIndex := 118, attributes := #[] }, { accessFlags := 9, nameIndex := 392, descriptorIndex := 74, attributes := #[] }, { accessFlags := 9, nameIndex := 69, descriptorIndex := 70, attributes := #[] }] 48 6 #[] #[{ accessFlags := 26, nameIndex := 61, descriptorIndex := 62, attributes := #[] }, { accessFlags := 26, nameIndex := 65, descriptorIndex := 62, attributes := #[] }, { accessFlags := 24, nameIndex := 430, descriptorIndex := 62, attributes := #[] }, { accessFlags := 4120, nameIndex := 46, descriptorIndex := 47, attributes := #[] }])
  fields := #[{ name := "HI_BYTE_SHIFT", type := .int, accessFlags := 26, slot := 0, constantValue := 0 }, { name := "LO_BYTE_SHIFT", type := .int, accessFlags := 26, slot := 1, constantValue := 0 }, { name := "MAX_LENGTH", type := .int, accessFlags := 24, slot := 2, constantValue := 0 }, { name := "$assertionsDisabled", type := .boolean, accessFlags := 4120, slot := 3, constantValue := 0 }]
  methods := #[k8m0, k8m1, k8m2, k8m3, k8m4, k8m5, k8m6, k8m7, k8m8, k8m9, k8m10, k8m11]
  instanceTypes := #[]
  staticTypes := #[.int, .int, .int, .boolean]
  resolved := Array.replicate 635 none
  statics := some 1 }

def pool9 : Array CpInfo := pool [(2, .class_ 4), (1, u "java/lang/Object"), (0, u "<init>"), (0, u "()V"), (1, .class_ 10), (1, u "java/lang/String"), (7, .class_ 20), (1, u "com/example/overplan/overplan/util/PlainNumber"), (0, u "isDigits"), (0, u "(Ljava/lang/String;II)Z"), (61, .methodref 8 85), (0, .nameAndType 86 87), (0, u "charAt"), (0, u "(I)C")] 37

def k9m0 : Method := { name := "<init>", desc := "()V", sig := { parameters := [], returnType := none }, accessFlags := 2, code := none }
def k9c1 : Code := { maxStack := 2, maxLocals := 5, code := prog_73_method_5_code, exceptionTable := #[], attributes := #[] }
def k9m1 : Method := { name := "isDigits", desc := "(Ljava/lang/String;II)Z", sig := { parameters := [(.object "java/lang/String"), .int, .int], returnType := some .boolean }, accessFlags := 9, code := some k9c1 }
/-- com/example/overplan/overplan/util/PlainNumber -/
def k9 : Class := { plain "com/example/overplan/overplan/util/PlainNumber" (some 0) with
  accessFlags := 49
  interfaces := #[]
  cf := some (fileOf pool9 18 #[] #[{ accessFlags := 2, nameIndex := 5, descriptorIndex := 6, attributes := #[] }, { accessFlags := 9, nameIndex := 21, descriptorIndex := 22, attributes := #[] }] 49 2 #[] #[])
  fields := #[]
  methods := #[k9m0, k9m1]
  instanceTypes := #[]
  staticTypes := #[]
  resolved := Array.replicate 125 none
  statics := none }

def pool10 : Array CpInfo := pool [(1, .class_ 2), (0, u "java/lang/String"), (1, .class_ 6), (1, u "java/lang/Object"), (0, u "<init>"), (0, u "()V"), (0, .methodref 1 10), (0, .nameAndType 11 12), (0, u "checkIndex"), (0, u "(II)V"), (1, .class_ 16), (1, u "java/lang/StringLatin1"), (36, u "([BI)C"), (67, u "$assertionsDisabled"), (0, u "Z"), (98, .class_ 223), (1, u "java/lang/StringLatin1$LinesSpliterator"), (28, u "charAt"), (137, .class_ 391), (0, u "java/lang/StringLatin1$CharsSpliterator")] 3

def k10m0 : Method := { name := "<init>", desc := "()V", sig := { parameters := [], returnType := none }, accessFlags := 0, code := none }
def k10c1 : Code := { maxStack := 2, maxLocals := 2, code := jdk_43_method_2_code, exceptionTable := #[], attributes := #[] }
def k10m1 : Method := { name := "charAt", desc := "([BI)C", sig := { parameters := [(.array .byte), .int], returnType := some .char }, accessFlags := 9, code := some k10c1 }
/-- java/lang/StringLatin1 -/
def k10 : Class := { plain "java/lang/StringLatin1" (some 0) with
  accessFlags := 48
  interfaces := #[]
  cf := some (fileOf pool10 14 #[.nestMembers #[390, 221]] #[{ accessFlags := 0, nameIndex := 7, descriptorIndex := 8, attributes := #[] }, { accessFlags := 9, nameIndex := 252, descriptorIndex := 53, attributes := #[] }] 48 4 #[] #[{ accessFlags := 4120, nameIndex := 121, descriptorIndex := 122, attributes := #[] }])
  fields := #[{ name := "$assertionsDisabled", type := .boolean, accessFlags := 4120, slot := 0, constantValue := 0 }]
  methods := #[k10m0, k10m1]
  instanceTypes := #[]
  staticTypes := #[.boolean]
  resolved := Array.replicate 395 none
  statics := none }

def pool11 : Array CpInfo := pool [(2, .class_ 4), (1, u "java/lang/Object"), (0, u "<init>"), (0, u "()V"), (17, .class_ 26), (1, u "jdk/internal/util/Preconditions"), (6, u "checkIndex"), (21, .class_ 56), (0, u "jdk/internal/util/Preconditions$4"), (57, .class_ 115), (0, u "jdk/internal/util/Preconditions$1"), (7, u "SIOOBE_FORMATTER"), (0, u "Ljava/util/function/BiFunction;"), (0, .class_ 126), (0, u "jdk/internal/util/Preconditions$2"), (3, u "AIOOBE_FORMATTER"), (0, .class_ 132), (0, u "jdk/internal/util/Preconditions$3"), (3, u "IOOBE_FORMATTER"), (41, u "(IILjava/util/function/BiFunction;)I")] 15

def k11m0 : Method := { name := "<init>", desc := "()V", sig := { parameters := [], returnType := none }, accessFlags := 1, code := none }
def k11c1 : Code := { maxStack := 3, maxLocals := 3, code := jdk_41_method_11_code, exceptionTable := #[], attributes := #[] }
def k11m1 : Method := { name := "checkIndex", desc := "(IILjava/util/function/BiFunction;)I", sig := { parameters := [.int, .int, (.object "java/util/function/BiFunction")], returnType := some .int }, accessFlags := 9, code := some k11c1 }
/-- jdk/internal/util/Preconditions -/
def k11 : Class := { plain "jdk/internal/util/Preconditions" (some 0) with
  accessFlags := 33
  interfaces := #[]
  cf := some (fileOf pool11 24 #[.nestMembers #[55, 131, 125, 114]] #[{ accessFlags := 1, nameIndex := 5, descriptorIndex := 6, attributes := #[] }, { accessFlags := 9, nameIndex := 33, descriptorIndex := 178, attributes := #[] }] 33 2 #[] #[{ accessFlags := 25, nameIndex := 123, descriptorIndex := 124, attributes := #[] }, { accessFlags := 25, nameIndex := 130, descriptorIndex := 124, attributes := #[] }, { accessFlags := 25, nameIndex := 136, descriptorIndex := 124, attributes := #[] }])
  fields := #[{ name := "SIOOBE_FORMATTER", type := (.object "java/util/function/BiFunction"), accessFlags := 25, slot := 0, constantValue := 0 }, { name := "AIOOBE_FORMATTER", type := (.object "java/util/function/BiFunction"), accessFlags := 25, slot := 1, constantValue := 0 }, { name := "IOOBE_FORMATTER", type := (.object "java/util/function/BiFunction"), accessFlags := 25, slot := 2, constantValue := 0 }]
  methods := #[k11m0, k11m1]
  instanceTypes := #[]
  staticTypes := #[(.object "java/util/function/BiFunction"), (.object "java/util/function/BiFunction"), (.object "java/util/function/BiFunction")]
  resolved := Array.replicate 194 none
  statics := some 2 }

def pool12 : Array CpInfo := pool [(9, u "<init>"), (6, .class_ 18), (1, u "java/lang/Object"), (0, u "()V"), (1, .class_ 23), (1, u "jdk/internal/util/ArraysSupport"), (0, u "LOG2_ARRAY_LONG_INDEX_SCALE"), (0, u "I"), (2, u "U"), (0, u "Ljdk/internal/misc/Unsafe;"), (8, u "BIG_ENDIAN"), (0, u "Z"), (8, u "LOG2_BYTE_BIT_SIZE"), (4, u "LOG2_ARRAY_INT_INDEX_SCALE"), (54, u "JLA"), (0, u "Ljdk/internal/access/JavaLangAccess;"), (11, u "LOG2_ARRAY_BOOLEAN_INDEX_SCALE"), (9, u "LOG2_ARRAY_BYTE_INDEX_SCALE"), (5, u "LOG2_ARRAY_CHAR_INDEX_SCALE"), (5, u "LOG2_ARRAY_SHORT_INDEX_SCALE"), (18, u "LOG2_ARRAY_FLOAT_INDEX_SCALE"), (24, u "LOG2_ARRAY_DOUBLE_INDEX_SCALE"), (89, u "T_BOOLEAN"), (2, u "T_CHAR"), (1, u "T_FLOAT"), (1, u "T_DOUBLE"), (1, u "T_BYTE"), (1, u "T_SHORT"), (1, u "T_INT"), (1, u "T_LONG"), (1, u "SOFT_MAX_ARRAY_LENGTH")] 83

def k12m0 : Method := { name := "<init>", desc := "()V", sig := { parameters := [], returnType := none }, accessFlags := 2, code := none }
/-- jdk/internal/util/ArraysSupport -/
def k12 : Class := { plain "jdk/internal/util/ArraysSupport" (some 0) with
  accessFlags := 33
  interfaces := #[]
  cf := some (fileOf pool12 21 #[] #[{ accessFlags := 2, nameIndex := 9, descriptorIndex := 19, attributes := #[] }] 33 16 #[] #[{ accessFlags := 24, nameIndex := 28, descriptorIndex := 29, attributes := #[] }, { accessFlags := 26, nameIndex := 38, descriptorIndex := 39, attributes := #[] }, { accessFlags := 25, nameIndex := 121, descriptorIndex := 25, attributes := #[] }, { accessFlags := 25, nameIndex := 131, descriptorIndex := 25, attributes := #[] }, { accessFlags := 25, nameIndex := 137, descriptorIndex := 25, attributes := #[] }, { accessFlags := 25, nameIndex := 143, descriptorIndex := 25, attributes := #[] }, { accessFlags := 25, nameIndex := 53, descriptorIndex := 25, attributes := #[] }, { accessFlags := 25, nameIndex := 24, descriptorIndex := 25, attributes := #[] }, { accessFlags := 25, nameIndex := 162, descriptorIndex := 25, attributes := #[] }, { accessFlags := 25, nameIndex := 187, descriptorIndex := 25, attributes := #[] }, { accessFlags := 26, nameIndex := 48, descriptorIndex := 25, attributes := #[] }, { accessFlags := 25, nameIndex := 277, descriptorIndex := 25, attributes := #[] }, { accessFlags := 25, nameIndex := 280, descriptorIndex := 25, attributes := #[] }, { accessFlags := 25, nameIndex := 282, descriptorIndex := 25, attributes := #[] }, { accessFlags := 25, nameIndex := 284, descriptorIndex := 25, attributes := #[] }, { accessFlags := 25, nameIndex := 286, descriptorIndex := 25, attributes := #[] }, { accessFlags := 25, nameIndex := 288, descriptorIndex := 25, attributes := #[] }, { accessFlags := 25, nameIndex := 290, descriptorIndex := 25, attributes := #[] }, { accessFlags := 25, nameIndex := 292, descriptorIndex := 25, attributes := #[] }, { accessFlags := 26, nameIndex := 108, descriptorIndex := 109, attributes := #[] }, { accessFlags := 25, nameIndex := 294, descriptorIndex := 25, attributes := #[] }])
  fields := #[{ name := "U", type := (.object "jdk/internal/misc/Unsafe"), accessFlags := 24, slot := 0, constantValue := 0 }, { name := "BIG_ENDIAN", type := .boolean, accessFlags := 26, slot := 1, constantValue := 0 }, { name := "LOG2_ARRAY_BOOLEAN_INDEX_SCALE", type := .int, accessFlags := 25, slot := 2, constantValue := 0 }, { name := "LOG2_ARRAY_BYTE_INDEX_SCALE", type := .int, accessFlags := 25, slot := 3, constantValue := 0 }, { name := "LOG2_ARRAY_CHAR_INDEX_SCALE", type := .int, accessFlags := 25, slot := 4, constantValue := 0 }, { name := "LOG2_ARRAY_SHORT_INDEX_SCALE", type := .int, accessFlags := 25, slot := 5, constantValue := 0 }, { name := "LOG2_ARRAY_INT_INDEX_SCALE", type := .int, accessFlags := 25, slot := 6, constantValue := 0 }, { name := "LOG2_ARRAY_LONG_INDEX_SCALE", type := .int, accessFlags := 25, slot := 7, constantValue := 0 }, { name := "LOG2_ARRAY_FLOAT_INDEX_SCALE", type := .int, accessFlags := 25, slot := 8, constantValue := 0 }, { name := "LOG2_ARRAY_DOUBLE_INDEX_SCALE", type := .int, accessFlags := 25, slot := 9, constantValue := 0 }, { name := "LOG2_BYTE_BIT_SIZE", type := .int, accessFlags := 26, slot := 10, constantValue := 0 }, { name := "T_BOOLEAN", type := .int, accessFlags := 25, slot := 11, constantValue := 0 }, { name := "T_CHAR", type := .int, accessFlags := 25, slot := 12, constantValue := 0 }, { name := "T_FLOAT", type := .int, accessFlags := 25, slot := 13, constantValue := 0 }, { name := "T_DOUBLE", type := .int, accessFlags := 25, slot := 14, constantValue := 0 }, { name := "T_BYTE", type := .int, accessFlags := 25, slot := 15, constantValue := 0 }, { name := "T_SHORT", type := .int, accessFlags := 25, slot := 16, constantValue := 0 }, { name := "T_INT", type := .int, accessFlags := 25, slot := 17, constantValue := 0 }, { name := "T_LONG", type := .int, accessFlags := 25, slot := 18, constantValue := 0 }, { name := "JLA", type := (.object "jdk/internal/access/JavaLangAccess"), accessFlags := 26, slot := 19, constantValue := 0 }, { name := "SOFT_MAX_ARRAY_LENGTH", type := .int, accessFlags := 25, slot := 20, constantValue := 0 }]
  methods := #[k12m0]
  instanceTypes := #[]
  staticTypes := #[(.object "jdk/internal/misc/Unsafe"), .boolean, .int, .int, .int, .int, .int, .int, .int, .int, .int, .int, .int, .int, .int, .int, .int, .int, .int, (.object "jdk/internal/access/JavaLangAccess"), .int]
  resolved := Array.replicate 378 none
  statics := none }

def pool13 : Array CpInfo := pool [(1, u "java/lang/Cloneable"), (0, .class_ 1), (0, u "java/lang/Object"), (0, .class_ 3)] 3

/-- java/lang/Cloneable -/
def k13 : Class := { plain "java/lang/Cloneable" (some 0) with
  accessFlags := 1537
  interfaces := #[]
  cf := some (fileOf pool13 2 #[] #[] 1537 4 #[] #[])
  fields := #[]
  methods := #[]
  instanceTypes := #[]
  staticTypes := #[]
  resolved := Array.replicate 8 none
  statics := none }

/-- the primitive byte -/
def k14 : Class := { plain "byte" none with kind := .primitive 'B', accessFlags := 0x411 }
/-- [B -/
def k15 : Class := { plain "[B" (some 0) with kind := .array 14 .byte, interfaces := #[13, 2], accessFlags := 1041 }

/-- the primitive char -/
def k16 : Class := { plain "char" none with kind := .primitive 'C', accessFlags := 0x411 }
/-- [C -/
def k17 : Class := { plain "[C" (some 0) with kind := .array 16 .char, interfaces := #[13, 2], accessFlags := 1041 }

/-- the primitive int -/
def k18 : Class := { plain "int" none with kind := .primitive 'I', accessFlags := 0x411 }
/-- [I -/
def k19 : Class := { plain "[I" (some 0) with kind := .array 18 .int, interfaces := #[13, 2], accessFlags := 1041 }

def heap : Heap := #[{ cls := 7, slots := #[.long 0, .int 1, .null, .int 0, .null, .int 0, .int 0], vm := .statics 7 },
  { cls := 8, slots := #[.int 0, .int 8, .int 0, .int 1], vm := .statics 8 },
  { cls := 11, slots := #[.null, .null, .null], vm := .statics 11 }]
def classes : Array Class := #[k0, k1, k2, k3, k4, k5, k6, k7, k8, k9, k10, k11, k12, k13, k14, k15, k16, k17, k18, k19]
def interned : List (Array UInt16 × Addr) := []
def slotsUsed : Nat := 14
def theMethod : MethodId := ⟨1, 4⟩
def args0 : Array Value := #[.int 48, .int 48, .int 48, .int 48, .int 48]
def aboutOver (below : List Frame) : State where
  vm := { classes := classes, interned := interned.toArray }
  heap := heap
  slotsUsed := slotsUsed
  threads := #[{ frames := .invoking theMethod args0 :: below }]
def below0 : List Frame := [.native { method := ⟨0, 0⟩, args := #[] }]
def about1 : State := aboutOver below0
def p0 : Program := .bare "" "" ""
def e0 : Env := launch0.env 0 0 0
theorem w_frames : about1.frames = Frame.invoking theMethod args0 :: below0 := rfl
set_option maxRecDepth 65536 in
theorem w_args : argsFit about1.vm theMethod args0 = true := by decide +kernel
set_option maxRecDepth 65536 in
theorem w_heap : heapFits about1 = true := by decide +kernel
set_option maxRecDepth 65536 in
theorem w_runnable : about1.curStatus? = some .runnable := by decide +kernel
set_option maxRecDepth 65536 in
theorem w_alone : about1.alone = true := by decide +kernel
set_option maxRecDepth 65536 in
theorem w_named : about1.methodNamed? x = some theMethod := by decide +kernel
set_option maxRecDepth 65536 in
theorem w_hears : about1.hears theMethod below0 = true := by decide +kernel
set_option maxRecDepth 65536 in
theorem w_ripe : about1.ripe theMethod args0 below0 = true := by decide +kernel
theorem w_running : about1.status = .running := rfl
set_option maxRecDepth 65536 in
theorem w_room : about1.hasRoom e0.platform room_1 = true :=
  launch0.hasRoom_least _ room_1 (by decide +kernel) (by decide +kernel) (by decide +kernel) (by decide +kernel) (by decide +kernel) (by decide +kernel)
theorem allAtoms_all (ts : List Jvm.Cond) (a : Array Jvm.Value) (st : Jvm.State) : (allAtoms ts).before a st = ts.all (fun c => c.before a st) := by
  induction ts with
  | nil => rfl
  | cons c t ih =>
    show (Jvm.Cond.and c (allAtoms t)).before a st = _
    rw [Jvm.Cond.before_and, ih, List.all_cons]
def words1 : List Jvm.Cond := Jvm.Cond.code x code maxLocals ret :: tables_1
/-- a 'code' word, met by the world's own term for the bytes: nothing is compared byte by byte -/
theorem code_word {y : MethodName} {bytes : ByteArray} {mx : Nat} {rt : Option FieldType} {a : Array Value} {s : State} {m : MethodId} {meth : Method} {c : Code} (h1 : s.methodNamed? y = some m) (h2 : s.vm.method? m = some meth) (h3 : meth.code = some c) (h4 : c.code = bytes)
    (h5 : (c.maxLocals == mx && c.exceptionTable.isEmpty && decide (c.maxStack ≤ mostOperands) && decide (meth.sig.returnType = rt) && !meth.locks && decide (parseMethodDescriptor y.desc = some meth.sig)) = true) : (Jvm.Cond.code y bytes mx rt).before a s = true := by
  simp only [Bool.and_eq_true, beq_iff_eq, Bool.not_eq_true', decide_eq_true_eq] at h5
  obtain ⟨⟨⟨⟨⟨g1, g2⟩, g3⟩, g4⟩, g5⟩, g6⟩ := h5
  simp [Cond.before, Cond.holds, Cond.value, h1, h2, h3, h4, g1, g2, g3, g4, g5, g6]
def isCode : Jvm.Cond → Bool
  | .code _ _ _ _ => true
  | _ => false
theorem all_split {L : List Jvm.Cond} {P : Jvm.Cond → Bool} (h1 : L.all (fun c => isCode c || P c) = true) (h2 : ∀ c ∈ L.filter isCode, P c = true) : L.all P = true := by
  refine List.all_eq_true.mpr fun c hc => ?_
  have h := List.all_eq_true.mp h1 c hc
  rcases Bool.eq_false_or_eq_true (isCode c) with hi | hi
  · exact h2 c (List.mem_filter.mpr ⟨hc, hi⟩)
  · simpa [hi] using h
set_option maxRecDepth 65536 in
theorem w_c0 : (Jvm.Cond.code x code maxLocals ret).before args0 about1 = true := code_word (m := ⟨1, 4⟩) (meth := k1m4) (c := k1c4) (by decide +kernel) rfl rfl rfl (by decide +kernel)
set_option maxRecDepth 65536 in
theorem w_c1 : (Jvm.Cond.code ({ cls := "com/example/overplan/overplan/util/PlainNumberIsDigitsPinLaw", name := "draw", desc := "(I)C" } : Jvm.MethodName) method_2_code (1 : Nat) (Option.some Jvm.ClassFile.FieldType.char)).before args0 about1 = true := code_word (m := ⟨1, 1⟩) (meth := k1m1) (c := k1c1) (by decide +kernel) rfl rfl rfl (by decide +kernel)
set_option maxRecDepth 65536 in
theorem w_c2 : (Jvm.Cond.code ({ cls := "java/lang/String", name := "<init>", desc := "([C)V" } : Jvm.MethodName) jdk_42_method_3_code (2 : Nat) (Option.none : Option Jvm.ClassFile.FieldType)).before args0 about1 = true := code_word (m := ⟨7, 1⟩) (meth := k7m1) (c := k7c1) (by decide +kernel) rfl rfl rfl (by decide +kernel)
set_option maxRecDepth 65536 in
theorem w_c3 : (Jvm.Cond.code ({ cls := "java/lang/String", name := "<init>", desc := "([CIILjava/lang/Void;)V" } : Jvm.MethodName) jdk_42_method_149_code (6 : Nat) (Option.none : Option Jvm.ClassFile.FieldType)).before args0 about1 = true := code_word (m := ⟨7, 3⟩) (meth := k7m3) (c := k7c3) (by decide +kernel) rfl rfl rfl (by decide +kernel)
set_option maxRecDepth 65536 in
theorem w_c4 : (Jvm.Cond.code ({ cls := "java/lang/Object", name := "<init>", desc := "()V" } : Jvm.MethodName) object_method_1_code (1 : Nat) (Option.none : Option Jvm.ClassFile.FieldType)).before args0 about1 = true := code_word (m := ⟨0, 0⟩) (meth := k0m0) (c := k0c0) (by decide +kernel) rfl rfl rfl (by decide +kernel)
set_option maxRecDepth 65536 in
theorem w_c5 : (Jvm.Cond.code ({ cls := "java/lang/StringUTF16", name := "compress", desc := "([CII)[B" } : Jvm.MethodName) jdk_52_method_16_code (6 : Nat) (Option.some (Jvm.ClassFile.FieldType.array Jvm.ClassFile.FieldType.byte))).before args0 about1 = true := code_word (m := ⟨8, 8⟩) (meth := k8m8) (c := k8c8) (by decide +kernel) rfl rfl rfl (by decide +kernel)
set_option maxRecDepth 65536 in
theorem w_c6 : (Jvm.Cond.code ({ cls := "java/lang/StringUTF16", name := "compress", desc := "([CI[BII)I" } : Jvm.MethodName) jdk_52_method_21_code (7 : Nat) (Option.some Jvm.ClassFile.FieldType.int)).before args0 about1 = true := code_word (m := ⟨8, 9⟩) (meth := k8m9) (c := k8c9) (by decide +kernel) rfl rfl rfl (by decide +kernel)
set_option maxRecDepth 65536 in
theorem w_c7 : (Jvm.Cond.code ({ cls := "java/lang/StringUTF16", name := "coderFromArrayLen", desc := "([BI)B" } : Jvm.MethodName) jdk_52_method_15_code (2 : Nat) (Option.some Jvm.ClassFile.FieldType.byte)).before args0 about1 = true := code_word (m := ⟨8, 7⟩) (meth := k8m7) (c := k8c7) (by decide +kernel) rfl rfl rfl (by decide +kernel)
set_option maxRecDepth 65536 in
theorem w_c8 : (Jvm.Cond.code ({ cls := "com/example/overplan/overplan/util/PlainNumber", name := "isDigits", desc := "(Ljava/lang/String;II)Z" } : Jvm.MethodName) prog_73_method_5_code (5 : Nat) (Option.some Jvm.ClassFile.FieldType.boolean)).before args0 about1 = true := code_word (m := ⟨9, 1⟩) (meth := k9m1) (c := k9c1) (by decide +kernel) rfl rfl rfl (by decide +kernel)
set_option maxRecDepth 65536 in
theorem w_c9 : (Jvm.Cond.code ({ cls := "java/lang/StringUTF16", name := "toBytes", desc := "([CII)[B" } : Jvm.MethodName) jdk_52_method_14_code (5 : Nat) (Option.some (Jvm.ClassFile.FieldType.array Jvm.ClassFile.FieldType.byte))).before args0 about1 = true := code_word (m := ⟨8, 6⟩) (meth := k8m6) (c := k8c6) (by decide +kernel) rfl rfl rfl (by decide +kernel)
set_option maxRecDepth 65536 in
theorem w_c10 : (Jvm.Cond.code ({ cls := "java/lang/StringUTF16", name := "newBytesFor", desc := "(I)[B" } : Jvm.MethodName) jdk_52_method_2_code (1 : Nat) (Option.some (Jvm.ClassFile.FieldType.array Jvm.ClassFile.FieldType.byte))).before args0 about1 = true := code_word (m := ⟨8, 1⟩) (meth := k8m1) (c := k8c1) (by decide +kernel) rfl rfl rfl (by decide +kernel)
set_option maxRecDepth 65536 in
theorem w_c11 : (Jvm.Cond.code ({ cls := "java/lang/StringUTF16", name := "newBytesLength", desc := "(I)I" } : Jvm.MethodName) jdk_52_method_3_code (1 : Nat) (Option.some Jvm.ClassFile.FieldType.int)).before args0 about1 = true := code_word (m := ⟨8, 2⟩) (meth := k8m2) (c := k8c2) (by decide +kernel) rfl rfl rfl (by decide +kernel)
set_option maxRecDepth 65536 in
theorem w_c12 : (Jvm.Cond.code ({ cls := "java/lang/StringUTF16", name := "putChar", desc := "([BII)V" } : Jvm.MethodName) jdk_52_method_4_code (3 : Nat) (Option.none : Option Jvm.ClassFile.FieldType)).before args0 about1 = true := code_word (m := ⟨8, 3⟩) (meth := k8m3) (c := k8c3) (by decide +kernel) rfl rfl rfl (by decide +kernel)
set_option maxRecDepth 65536 in
theorem w_c13 : (Jvm.Cond.code ({ cls := "java/lang/StringUTF16", name := "getChar", desc := "([BI)C" } : Jvm.MethodName) jdk_52_method_5_code (2 : Nat) (Option.some Jvm.ClassFile.FieldType.char)).before args0 about1 = true := code_word (m := ⟨8, 4⟩) (meth := k8m4) (c := k8c4) (by decide +kernel) rfl rfl rfl (by decide +kernel)
set_option maxRecDepth 65536 in
theorem w_c14 : (Jvm.Cond.code ({ cls := "com/example/overplan/overplan/util/PlainNumberIsDigitsPinLaw", name := "ok", desc := "(IIIC)Z" } : Jvm.MethodName) method_4_code (4 : Nat) (Option.some Jvm.ClassFile.FieldType.boolean)).before args0 about1 = true := code_word (m := ⟨1, 3⟩) (meth := k1m3) (c := k1c3) (by decide +kernel) rfl rfl rfl (by decide +kernel)
set_option maxRecDepth 65536 in
theorem w_c15 : (Jvm.Cond.code ({ cls := "com/example/overplan/overplan/util/PlainNumberIsDigitsPinLaw", name := "digit", desc := "(C)Z" } : Jvm.MethodName) method_3_code (1 : Nat) (Option.some Jvm.ClassFile.FieldType.boolean)).before args0 about1 = true := code_word (m := ⟨1, 2⟩) (meth := k1m2) (c := k1c2) (by decide +kernel) rfl rfl rfl (by decide +kernel)
set_option maxRecDepth 65536 in
theorem w_c16 : (Jvm.Cond.code ({ cls := "java/lang/String", name := "charAt", desc := "(I)C" } : Jvm.MethodName) jdk_42_method_56_code (2 : Nat) (Option.some Jvm.ClassFile.FieldType.char)).before args0 about1 = true := code_word (m := ⟨7, 2⟩) (meth := k7m2) (c := k7c2) (by decide +kernel) rfl rfl rfl (by decide +kernel)
set_option maxRecDepth 65536 in
theorem w_c17 : (Jvm.Cond.code ({ cls := "java/lang/String", name := "isLatin1", desc := "()Z" } : Jvm.MethodName) jdk_42_method_154_code (1 : Nat) (Option.some Jvm.ClassFile.FieldType.boolean)).before args0 about1 = true := code_word (m := ⟨7, 4⟩) (meth := k7m4) (c := k7c4) (by decide +kernel) rfl rfl rfl (by decide +kernel)
set_option maxRecDepth 65536 in
theorem w_c18 : (Jvm.Cond.code ({ cls := "java/lang/StringLatin1", name := "charAt", desc := "([BI)C" } : Jvm.MethodName) jdk_43_method_2_code (2 : Nat) (Option.some Jvm.ClassFile.FieldType.char)).before args0 about1 = true := code_word (m := ⟨10, 1⟩) (meth := k10m1) (c := k10c1) (by decide +kernel) rfl rfl rfl (by decide +kernel)
set_option maxRecDepth 65536 in
theorem w_c19 : (Jvm.Cond.code ({ cls := "java/lang/String", name := "checkIndex", desc := "(II)V" } : Jvm.MethodName) jdk_42_method_155_code (2 : Nat) (Option.none : Option Jvm.ClassFile.FieldType)).before args0 about1 = true := code_word (m := ⟨7, 5⟩) (meth := k7m5) (c := k7c5) (by decide +kernel) rfl rfl rfl (by decide +kernel)
set_option maxRecDepth 65536 in
theorem w_c20 : (Jvm.Cond.code ({ cls := "jdk/internal/util/Preconditions", name := "checkIndex", desc := "(IILjava/util/function/BiFunction;)I" } : Jvm.MethodName) jdk_41_method_11_code (3 : Nat) (Option.some Jvm.ClassFile.FieldType.int)).before args0 about1 = true := code_word (m := ⟨11, 1⟩) (meth := k11m1) (c := k11c1) (by decide +kernel) rfl rfl rfl (by decide +kernel)
set_option maxRecDepth 65536 in
theorem w_c21 : (Jvm.Cond.code ({ cls := "java/lang/StringUTF16", name := "charAt", desc := "([BI)C" } : Jvm.MethodName) jdk_52_method_83_code (2 : Nat) (Option.some Jvm.ClassFile.FieldType.char)).before args0 about1 = true := code_word (m := ⟨8, 10⟩) (meth := k8m10) (c := k8c10) (by decide +kernel) rfl rfl rfl (by decide +kernel)
set_option maxRecDepth 65536 in
theorem w_c22 : (Jvm.Cond.code ({ cls := "java/lang/StringUTF16", name := "checkIndex", desc := "(I[B)V" } : Jvm.MethodName) jdk_52_method_91_code (2 : Nat) (Option.none : Option Jvm.ClassFile.FieldType)).before args0 about1 = true := code_word (m := ⟨8, 11⟩) (meth := k8m11) (c := k8c11) (by decide +kernel) rfl rfl rfl (by decide +kernel)
set_option maxRecDepth 65536 in
theorem w_c23 : (Jvm.Cond.code ({ cls := "java/lang/StringUTF16", name := "length", desc := "([B)I" } : Jvm.MethodName) jdk_52_method_6_code (1 : Nat) (Option.some Jvm.ClassFile.FieldType.int)).before args0 about1 = true := code_word (m := ⟨8, 5⟩) (meth := k8m5) (c := k8c5) (by decide +kernel) rfl rfl rfl (by decide +kernel)
def codes1 : List Jvm.Cond := [Jvm.Cond.code x code maxLocals ret, Jvm.Cond.code ({ cls := "com/example/overplan/overplan/util/PlainNumberIsDigitsPinLaw", name := "draw", desc := "(I)C" } : Jvm.MethodName) method_2_code (1 : Nat) (Option.some Jvm.ClassFile.FieldType.char), Jvm.Cond.code ({ cls := "java/lang/String", name := "<init>", desc := "([C)V" } : Jvm.MethodName) jdk_42_method_3_code (2 : Nat) (Option.none : Option Jvm.ClassFile.FieldType), Jvm.Cond.code ({ cls := "java/lang/String", name := "<init>", desc := "([CIILjava/lang/Void;)V" } : Jvm.MethodName) jdk_42_method_149_code (6 : Nat) (Option.none : Option Jvm.ClassFile.FieldType), Jvm.Cond.code ({ cls := "java/lang/Object", name := "<init>", desc := "()V" } : Jvm.MethodName) object_method_1_code (1 : Nat) (Option.none : Option Jvm.ClassFile.FieldType), Jvm.Cond.code ({ cls := "java/lang/StringUTF16", name := "compress", desc := "([CII)[B" } : Jvm.MethodName) jdk_52_method_16_code (6 : Nat) (Option.some (Jvm.ClassFile.FieldType.array Jvm.ClassFile.FieldType.byte)), Jvm.Cond.code ({ cls := "java/lang/StringUTF16", name := "compress", desc := "([CI[BII)I" } : Jvm.MethodName) jdk_52_method_21_code (7 : Nat) (Option.some Jvm.ClassFile.FieldType.int), Jvm.Cond.code ({ cls := "java/lang/StringUTF16", name := "coderFromArrayLen", desc := "([BI)B" } : Jvm.MethodName) jdk_52_method_15_code (2 : Nat) (Option.some Jvm.ClassFile.FieldType.byte), Jvm.Cond.code ({ cls := "com/example/overplan/overplan/util/PlainNumber", name := "isDigits", desc := "(Ljava/lang/String;II)Z" } : Jvm.MethodName) prog_73_method_5_code (5 : Nat) (Option.some Jvm.ClassFile.FieldType.boolean), Jvm.Cond.code ({ cls := "java/lang/StringUTF16", name := "toBytes", desc := "([CII)[B" } : Jvm.MethodName) jdk_52_method_14_code (5 : Nat) (Option.some (Jvm.ClassFile.FieldType.array Jvm.ClassFile.FieldType.byte)), Jvm.Cond.code ({ cls := "java/lang/StringUTF16", name := "newBytesFor", desc := "(I)[B" } : Jvm.MethodName) jdk_52_method_2_code (1 : Nat) (Option.some (Jvm.ClassFile.FieldType.array Jvm.ClassFile.FieldType.byte)), Jvm.Cond.code ({ cls := "java/lang/StringUTF16", name := "newBytesLength", desc := "(I)I" } : Jvm.MethodName) jdk_52_method_3_code (1 : Nat) (Option.some Jvm.ClassFile.FieldType.int), Jvm.Cond.code ({ cls := "java/lang/StringUTF16", name := "putChar", desc := "([BII)V" } : Jvm.MethodName) jdk_52_method_4_code (3 : Nat) (Option.none : Option Jvm.ClassFile.FieldType), Jvm.Cond.code ({ cls := "java/lang/StringUTF16", name := "getChar", desc := "([BI)C" } : Jvm.MethodName) jdk_52_method_5_code (2 : Nat) (Option.some Jvm.ClassFile.FieldType.char), Jvm.Cond.code ({ cls := "com/example/overplan/overplan/util/PlainNumberIsDigitsPinLaw", name := "ok", desc := "(IIIC)Z" } : Jvm.MethodName) method_4_code (4 : Nat) (Option.some Jvm.ClassFile.FieldType.boolean), Jvm.Cond.code ({ cls := "com/example/overplan/overplan/util/PlainNumberIsDigitsPinLaw", name := "digit", desc := "(C)Z" } : Jvm.MethodName) method_3_code (1 : Nat) (Option.some Jvm.ClassFile.FieldType.boolean), Jvm.Cond.code ({ cls := "java/lang/String", name := "charAt", desc := "(I)C" } : Jvm.MethodName) jdk_42_method_56_code (2 : Nat) (Option.some Jvm.ClassFile.FieldType.char), Jvm.Cond.code ({ cls := "java/lang/String", name := "isLatin1", desc := "()Z" } : Jvm.MethodName) jdk_42_method_154_code (1 : Nat) (Option.some Jvm.ClassFile.FieldType.boolean), Jvm.Cond.code ({ cls := "java/lang/StringLatin1", name := "charAt", desc := "([BI)C" } : Jvm.MethodName) jdk_43_method_2_code (2 : Nat) (Option.some Jvm.ClassFile.FieldType.char), Jvm.Cond.code ({ cls := "java/lang/String", name := "checkIndex", desc := "(II)V" } : Jvm.MethodName) jdk_42_method_155_code (2 : Nat) (Option.none : Option Jvm.ClassFile.FieldType), Jvm.Cond.code ({ cls := "jdk/internal/util/Preconditions", name := "checkIndex", desc := "(IILjava/util/function/BiFunction;)I" } : Jvm.MethodName) jdk_41_method_11_code (3 : Nat) (Option.some Jvm.ClassFile.FieldType.int), Jvm.Cond.code ({ cls := "java/lang/StringUTF16", name := "charAt", desc := "([BI)C" } : Jvm.MethodName) jdk_52_method_83_code (2 : Nat) (Option.some Jvm.ClassFile.FieldType.char), Jvm.Cond.code ({ cls := "java/lang/StringUTF16", name := "checkIndex", desc := "(I[B)V" } : Jvm.MethodName) jdk_52_method_91_code (2 : Nat) (Option.none : Option Jvm.ClassFile.FieldType), Jvm.Cond.code ({ cls := "java/lang/StringUTF16", name := "length", desc := "([B)I" } : Jvm.MethodName) jdk_52_method_6_code (1 : Nat) (Option.some Jvm.ClassFile.FieldType.int)]
set_option maxRecDepth 65536 in
theorem codes_eq : words1.filter isCode = codes1 := rfl
theorem w_codes : ∀ c ∈ words1.filter isCode, c.before args0 about1 = true := by
  rw [codes_eq]
  intro c hc
  simp only [codes1, List.mem_cons, List.not_mem_nil, or_false] at hc
  rcases hc with rfl | rfl | rfl | rfl | rfl | rfl | rfl | rfl | rfl | rfl | rfl | rfl | rfl | rfl | rfl | rfl | rfl | rfl | rfl | rfl | rfl | rfl | rfl | rfl
  · exact w_c0
  · exact w_c1
  · exact w_c2
  · exact w_c3
  · exact w_c4
  · exact w_c5
  · exact w_c6
  · exact w_c7
  · exact w_c8
  · exact w_c9
  · exact w_c10
  · exact w_c11
  · exact w_c12
  · exact w_c13
  · exact w_c14
  · exact w_c15
  · exact w_c16
  · exact w_c17
  · exact w_c18
  · exact w_c19
  · exact w_c20
  · exact w_c21
  · exact w_c22
  · exact w_c23
set_option maxRecDepth 65536 in
theorem w_t1 : (words1.take 24).all (fun c => isCode c || c.before args0 about1) = true := by decide +kernel
set_option maxRecDepth 65536 in
theorem w_t2 : ((words1.drop 24).take 24).all (fun c => isCode c || c.before args0 about1) = true := by decide +kernel
set_option maxRecDepth 65536 in
theorem w_t3 : (((words1.drop 24).drop 24).take 24).all (fun c => isCode c || c.before args0 about1) = true := by decide +kernel
set_option maxRecDepth 65536 in
theorem w_t4 : ((((words1.drop 24).drop 24).drop 24).take 24).all (fun c => isCode c || c.before args0 about1) = true := by decide +kernel
set_option maxRecDepth 65536 in
theorem w_t5 : ((((words1.drop 24).drop 24).drop 24).drop 24).all (fun c => isCode c || c.before args0 about1) = true := by decide +kernel
theorem w_tables : (allAtoms (Jvm.Cond.code x code maxLocals ret :: tables_1)).before args0 about1 = true := by
  rw [allAtoms_all]
  show words1.all (fun c => c.before args0 about1) = true
  refine all_split ?_ w_codes
  rw [← List.take_append_drop 24 words1, List.all_append, w_t1, ← List.take_append_drop 24 (words1.drop 24), List.all_append, w_t2, ← List.take_append_drop 24 ((words1.drop 24).drop 24), List.all_append, w_t3, ← List.take_append_drop 24 (((words1.drop 24).drop 24).drop 24), List.all_append, w_t4, w_t5]
  rfl
set_option maxRecDepth 65536 in
theorem w_rest : rest_1_c.before args0 about1 = true := by decide +kernel
set_option maxRecDepth 65536 in
theorem w_case : (Jvm.Cond.and given_1 narrow_1).before args0 about1 = true := by decide +kernel
theorem w_applies : (headSpec (Jvm.Cond.code x code maxLocals ret :: tables_1) room_1).applies x e0.platform about1 = true :=
  (Spec.applies_iff w_frames).mpr ⟨w_running, w_runnable, w_alone, w_named, w_hears, w_ripe, w_room, w_tables⟩
theorem atStart : AtStart classFile x code maxLocals ret World_1 tables_1 room_1 Calls_1 rest_1 Pre_1 launch0 p0 e0 about1 theMethod args0 below0 :=
  ⟨lists_1, trivial, launch0.admits_env _ _ _, launch0.least_env, fairChoices_fair.cas, fairChoices_fair.clock, w_frames, w_args, w_heap, w_applies, trivial, w_rest, w_case⟩
end start1
theorem witness_1 : WitnessClaimed_1 := ⟨start1.p0, start1.e0, start1.about1, start1.theMethod, start1.args0, start1.below0, start1.atStart⟩
end Jvm.Pilot.@@N@@
