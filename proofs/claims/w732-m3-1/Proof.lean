import JvmDerived
import JvmDerived.Pilot.@@N@@Statement
import JvmDerived.Pilot.@@N@@Code
set_option linter.unusedVariables false
set_option linter.unusedSimpArgs false
namespace Jvm.Pilot.@@N@@.W
open Jvm Jvm.ClassFile Sem Op Lib Jvm.Free Jvm.Stand Jvm.LawKit Jvm.RoadKit
/-- what stays fixed in a body's walk: the interpreter, the tables, the body's own class, bytes, locals, kind of result and name -/
def Cx (Z : State) (own : String) (bytes : ByteArray) (maxL : Nat) (ret : Option FieldType) (mn : String) (p : Program) (s : State) (m : MethodId) (meth : Method) (c : Code) : Prop :=
  p.tables.exec = Jvm.exec ∧ Z.Warmed39 s.vm ∧ s.vm.findClass own = some m.cls ∧ c.code = bytes ∧ c.maxLocals = maxL ∧ meth.sig.returnType = ret ∧ meth.locks = false ∧ meth.name = mn
/-- from the frame f at the heap h on, the body runs to its end and leaves Q -/
def Go (p : Program) (l : Launch) (e : Env) (R : Room) (s : State) (m : MethodId) (args : Array Value) (below : List Frame) (meth : Method) (c : Code) (n0 kc ks : Nat) (Q : Option Value → Heap → Prop) (h : Heap) (cells slots : Nat) (f : JFrame) : Prop :=
  ∀ (T : State) (locs : List Loc), Stand p l e R s m args below meth c T locs cells slots → T.heap = h → Fr n0 locs →
    ∃ s₂ o, Steps p.tables e below (T.setTop f) s₂ ∧ s₂.status = .running ∧ Ended s₂ below o ∧ ∃ v L, o = .returned v ∧ (Q v s₂.heap ∧ Fr n0 L) ∧ FrameEnd s o s₂ L kc ks
/-- a body's contract: called with as' at the heap h it returns, and Q holds -/
def Ctr (l : Launch) (Z : State) (n0 : Nat) (y : MethodName) (bytes : ByteArray) (maxL : Nat) (ret : Option FieldType) (ws : List Cond) (rm : Room) (as' : Array Value) (h : Heap) (Q : Option Value → Heap → Prop) : Prop :=
  MetFree l y (head1 (Cond.code y bytes maxL ret :: ws) rm) (fun a U => a = as' ∧ Z.Warmed39 U.vm ∧ U.heap = h) (fun _ _ _ _ _ => True) (fun _ U o U' => ∃ v L, o = .returned v ∧ (Q v U'.heap ∧ Fr n0 L) ∧ FrameEnd U o U' L rm.cells rm.slots)
theorem Ctr.body {l : Launch} {Z : State} {n0 : Nat} {y : MethodName} {bytes : ByteArray} {maxL : Nat} {ret : Option FieldType} {ws : List Cond} {rm : Room} {as' : Array Value} {h : Heap} {Q : Option Value → Heap → Prop}
    (hp : plainFor y = true)
    (body : ∀ p e s m below meth c, Cx Z y.cls bytes maxL ret y.name p s m meth c → Go p l e rm s m as' below meth c n0 rm.cells rm.slots Q h 0 0 (entryFrame m as' maxL)) : Ctr l Z n0 y bytes maxL ret ws rm as' h Q := by
  refine MetFree.of_bodySF hp hisR ?_
  intro p e s m args below meth c s₁ Bd hml0 hP hK
  obtain ⟨rfl, hZ, hh⟩ := hP
  exact body p e s m below meth c ⟨Bd.exec, hZ, findClass_of_methodNamed Bd.named, Bd.bytes, hml0, Bd.returns, Bd.notSynchronized, (name_of_methodNamed Bd.named Bd.method).1⟩ s₁ [] (Stand.of_body Bd) (by rw [← hh, Bd.state]; rfl) (Fr.nil n0)
theorem Ctr.mono {l : Launch} {Z : State} {n0 : Nat} {y : MethodName} {bytes : ByteArray} {maxL : Nat} {ret : Option FieldType} {ws : List Cond} {rm : Room} {as' : Array Value} {h : Heap} {Q Q' : Option Value → Heap → Prop}
    (C : Ctr l Z n0 y bytes maxL ret ws rm as' h Q) (hq : ∀ v h', Q v h' → Q' v h') : Ctr l Z n0 y bytes maxL ret ws rm as' h Q' := by
  intro p e ha hc hk s m args below hf happ hP hK
  obtain ⟨n, o, h1, h2, h3, v, L, h4, ⟨h5, h6⟩, h7⟩ := C p e ha hc hk s m args below hf happ hP hK
  exact ⟨n, o, h1, h2, h3, v, L, h4, ⟨hq _ _ h5, h6⟩, h7⟩
/-- a comparison's condition as a plain sentence -/
def cdP (cd : ClassFile.Cond) (x y : Int32) : Prop := match cd with
  | .eq => x = y
  | .ne => ¬ x = y
  | .lt => x < y
  | .ge => ¬ x < y
  | .gt => y < x
  | .le => ¬ y < x
/-- and its contrary -/
def cdN (cd : ClassFile.Cond) (x y : Int32) : Prop := match cd with
  | .eq => ¬ x = y
  | .ne => x = y
  | .lt => ¬ x < y
  | .ge => x < y
  | .gt => ¬ y < x
  | .le => y < x
theorem cd_yes {cd : ClassFile.Cond} {x y : Int32} (h : cdP cd x y) : if_icmp.holds cd x y = true := by
  cases cd
  · exact (teq h).1
  · exact (feq h).2
  · exact (tlt h).1
  · exact (flt h).2.1
  · exact (tlt h).2.2.1
  · exact (flt h).2.2.2
theorem cd_no {cd : ClassFile.Cond} {x y : Int32} (h : cdN cd x y) : if_icmp.holds cd x y = false := by
  cases cd
  · exact (feq h).1
  · exact (teq h).2
  · exact (flt h).1
  · exact (tlt h).2.1
  · exact (flt h).2.2.1
  · exact (tlt h).2.2.2
theorem cd_em (cd : ClassFile.Cond) (x y : Int32) : cdP cd x y ∨ cdN cd x y := by
  cases cd
  · exact Decidable.em (x = y)
  · exact (Decidable.em (x = y)).symm
  · exact Decidable.em (x < y)
  · exact (Decidable.em (x < y)).symm
  · exact Decidable.em (y < x)
  · exact (Decidable.em (y < x)).symm
section Rules
variable {p : Program} {l : Launch} {e : Env} {R : Room} {s : State} {m : MethodId} {args : Array Value} {below : List Frame} {meth : Method} {c : Code} {Z : State} {a0 : Array Value} {own mn : String} {bytes : ByteArray} {maxL : Nat} {ret : Option FieldType} {n0 kc ks : Nat} {Q : Option Value → Heap → Prop} {h : Heap} {cells slots : Nat} {pc q : Nat} {L : Array Slot} {S : List Value}
theorem Go.of_step {f f' : JFrame} (st : ∀ T locs, Stand p l e R s m args below meth c T locs cells slots → T.heap = h → ∀ t, Steps p.tables e below (T.setTop f') t → Steps p.tables e below (T.setTop f) t) (k : Go p l e R s m args below meth c n0 kc ks Q h cells slots f') : Go p l e R s m args below meth c n0 kc ks Q h cells slots f := fun T locs X eT N => by
  obtain ⟨s₂, o, a1, a2⟩ := k T locs X eT N
  exact ⟨s₂, o, st T locs X eT _ a1, a2⟩
/-- a step that warms the tables, the heap as it was -/
theorem Go.of_warm {f f' : JFrame} (st : ∀ T locs, Stand p l e R s m args below meth c T locs cells slots → T.heap = h → ∃ T', Stand p l e R s m args below meth c T' locs cells slots ∧ T'.heap = h ∧ ∀ t, Steps p.tables e below (T'.setTop f') t → Steps p.tables e below (T.setTop f) t) (k : Go p l e R s m args below meth c n0 kc ks Q h cells slots f') : Go p l e R s m args below meth c n0 kc ks Q h cells slots f := fun T locs X eT N => by
  obtain ⟨T', X', eT', st'⟩ := st T locs X eT
  obtain ⟨s₂, o, a1, a2⟩ := k T' locs X' eT' N
  exact ⟨s₂, o, st' _ a1, a2⟩
theorem Go.entry {f f' : JFrame} (q : f = f') (k : Go p l e R s m args below meth c n0 kc ks Q h cells slots f') : Go p l e R s m args below meth c n0 kc ks Q h cells slots f := q ▸ k
theorem Go.weaken {f : JFrame} {Q' : Option Value → Heap → Prop} (k : Go p l e R s m args below meth c n0 kc ks Q' h cells slots f) (hq : ∀ v h', Q' v h' → Q v h') : Go p l e R s m args below meth c n0 kc ks Q h cells slots f := fun T locs X eT N => by
  obtain ⟨s₂, o, a1, a2, a3, v, L, a4, ⟨a5, a6⟩, a7⟩ := k T locs X eT N
  exact ⟨s₂, o, a1, a2, a3, v, L, a4, ⟨hq _ _ a5, a6⟩, a7⟩
/-- more cells and slots may be booked -/
theorem Go.more {f : JFrame} {cells' slots' : Nat} (hc : cells ≤ cells') (hs : slots ≤ slots') (k : Go p l e R s m args below meth c n0 kc ks Q h cells' slots' f) : Go p l e R s m args below meth c n0 kc ks Q h cells slots f := fun T locs X eT N => k T locs (X.more hc hs) eT N
theorem Go.aloadN (K : Cx Z own bytes maxL ret mn p s m meth c) (hq : pc + 1 = q) {k : Fin 4} {v : Value} (hd : decode bytes pc = .ok (.aload_n k, 1)) (hl : L[k.val]? = some (.val v)) (hv : v.isRef = true) (r : Go p l e R s m args below meth c n0 kc ks Q h cells slots (mkF m q L (v :: S))) : Go p l e R s m args below meth c n0 kc ks Q h cells slots (mkF m pc L S) := Go.of_step (fun T locs X _ t k => by subst hq; exact XS.aloadN (g := mkF m pc L S) X.here K.1 rfl (hb K.2.2.2.1 hd) hl hv k) r
theorem Go.aload (K : Cx Z own bytes maxL ret mn p s m meth c) (hq : pc + 2 = q) {k : Nat} {v : Value} (hd : decode bytes pc = .ok (.aload k, 2)) (hl : L[k]? = some (.val v)) (hv : v.isRef = true) (r : Go p l e R s m args below meth c n0 kc ks Q h cells slots (mkF m q L (v :: S))) : Go p l e R s m args below meth c n0 kc ks Q h cells slots (mkF m pc L S) := Go.of_step (fun T locs X _ t k => by subst hq; exact XS.aload (g := mkF m pc L S) X.here K.1 rfl (hb K.2.2.2.1 hd) hl hv k) r
theorem Go.iloadN (K : Cx Z own bytes maxL ret mn p s m meth c) (hq : pc + 1 = q) {k : Fin 4} {v : Int32} (hd : decode bytes pc = .ok (.iload_n k, 1)) (hl : L[k.val]? = some (.val (.int v))) (r : Go p l e R s m args below meth c n0 kc ks Q h cells slots (mkF m q L (.int v :: S))) : Go p l e R s m args below meth c n0 kc ks Q h cells slots (mkF m pc L S) := Go.of_step (fun T locs X _ t k => by subst hq; exact XS.iloadN (g := mkF m pc L S) X.here K.1 rfl (hb K.2.2.2.1 hd) hl k) r
theorem Go.iload (K : Cx Z own bytes maxL ret mn p s m meth c) (hq : pc + 2 = q) {k : Nat} {v : Int32} (hd : decode bytes pc = .ok (.iload k, 2)) (hl : L[k]? = some (.val (.int v))) (r : Go p l e R s m args below meth c n0 kc ks Q h cells slots (mkF m q L (.int v :: S))) : Go p l e R s m args below meth c n0 kc ks Q h cells slots (mkF m pc L S) := Go.of_step (fun T locs X _ t k => by subst hq; exact XS.iload (g := mkF m pc L S) X.here K.1 rfl (hb K.2.2.2.1 hd) hl k) r
theorem Go.lloadN (K : Cx Z own bytes maxL ret mn p s m meth c) (hq : pc + 1 = q) {k : Fin 4} {v : Int64} (hd : decode bytes pc = .ok (.lload_n k, 1)) (hl : L[k.val]? = some (.val (.long v))) (r : Go p l e R s m args below meth c n0 kc ks Q h cells slots (mkF m q L (.long v :: S))) : Go p l e R s m args below meth c n0 kc ks Q h cells slots (mkF m pc L S) := Go.of_step (fun T locs X _ t k => by subst hq; exact XS.lloadN (g := mkF m pc L S) X.here K.1 rfl (hb K.2.2.2.1 hd) hl k) r
theorem Go.lload (K : Cx Z own bytes maxL ret mn p s m meth c) (hq : pc + 2 = q) {k : Nat} {v : Int64} (hd : decode bytes pc = .ok (.lload k, 2)) (hl : L[k]? = some (.val (.long v))) (r : Go p l e R s m args below meth c n0 kc ks Q h cells slots (mkF m q L (.long v :: S))) : Go p l e R s m args below meth c n0 kc ks Q h cells slots (mkF m pc L S) := Go.of_step (fun T locs X _ t k => by subst hq; exact XS.lload (g := mkF m pc L S) X.here K.1 rfl (hb K.2.2.2.1 hd) hl k) r
theorem Go.iconst (K : Cx Z own bytes maxL ret mn p s m meth c) (hq : pc + 1 = q) {i : Int} {v : Int32} (hv : Int32.ofInt i = v) (hd : decode bytes pc = .ok (.iconst i, 1)) (r : Go p l e R s m args below meth c n0 kc ks Q h cells slots (mkF m q L (.int v :: S))) : Go p l e R s m args below meth c n0 kc ks Q h cells slots (mkF m pc L S) := Go.of_step (fun T locs X _ t k => by subst hq hv; exact XS.iconst (g := mkF m pc L S) X.here K.1 rfl (hb K.2.2.2.1 hd) k) r
theorem Go.bipush (K : Cx Z own bytes maxL ret mn p s m meth c) (hq : pc + 2 = q) {i : Int} {v : Int32} (hv : (Int8.ofInt i).toInt32 = v) (hd : decode bytes pc = .ok (.bipush i, 2)) (r : Go p l e R s m args below meth c n0 kc ks Q h cells slots (mkF m q L (.int v :: S))) : Go p l e R s m args below meth c n0 kc ks Q h cells slots (mkF m pc L S) := Go.of_step (fun T locs X _ t k => by subst hq hv; exact XS.bipush (g := mkF m pc L S) X.here K.1 rfl (hb K.2.2.2.1 hd) k) r
theorem Go.sipush (K : Cx Z own bytes maxL ret mn p s m meth c) (hq : pc + 3 = q) {i : Int} {v : Int32} (hv : (Int16.ofInt i).toInt32 = v) (hd : decode bytes pc = .ok (.sipush i, 3)) (r : Go p l e R s m args below meth c n0 kc ks Q h cells slots (mkF m q L (.int v :: S))) : Go p l e R s m args below meth c n0 kc ks Q h cells slots (mkF m pc L S) := Go.of_step (fun T locs X _ t k => by subst hq hv; exact XS.sipush (g := mkF m pc L S) X.here K.1 rfl (hb K.2.2.2.1 hd) k) r
theorem Go.aconstNull (K : Cx Z own bytes maxL ret mn p s m meth c) (hq : pc + 1 = q) (hd : decode bytes pc = .ok (.aconst_null, 1)) (r : Go p l e R s m args below meth c n0 kc ks Q h cells slots (mkF m q L (.null :: S))) : Go p l e R s m args below meth c n0 kc ks Q h cells slots (mkF m pc L S) := Go.of_step (fun T locs X _ t k => by subst hq; exact XS.aconstNull (g := mkF m pc L S) X.here K.1 rfl (hb K.2.2.2.1 hd) k) r
theorem Go.ldcInt (K : Cx Z own bytes maxL ret mn p s m meth c) (hq : pc + 2 = q) {i : Nat} {v : Int32} (w : (Cond.constant own i v).before a0 Z = true) (hd : decode bytes pc = .ok (.ldc i, 2)) (r : Go p l e R s m args below meth c n0 kc ks Q h cells slots (mkF m q L (.int v :: S))) : Go p l e R s m args below meth c n0 kc ks Q h cells slots (mkF m pc L S) := Go.of_step (fun T locs X _ t k => by subst hq; exact X.ldcInt K.1 K.2.2.1 (mvT K.2.1 w) (g := mkF m pc L S) rfl (hb K.2.2.2.1 hd) _ k) r
theorem Go.ldc2Long (K : Cx Z own bytes maxL ret mn p s m meth c) (hq : pc + 3 = q) {i : Nat} {v : Int64} (w : (Cond.constantLong own i v).before a0 Z = true) (hd : decode bytes pc = .ok (.ldc2_w i, 3)) (r : Go p l e R s m args below meth c n0 kc ks Q h cells slots (mkF m q L (.long v :: S))) : Go p l e R s m args below meth c n0 kc ks Q h cells slots (mkF m pc L S) := Go.of_step (fun T locs X _ t k => by subst hq; exact X.ldc2Long K.1 K.2.2.1 (mvT K.2.1 w) (g := mkF m pc L S) rfl (hb K.2.2.2.1 hd) _ k) r
theorem Go.iadd (K : Cx Z own bytes maxL ret mn p s m meth c) (hq : pc + 1 = q) {x y : Int32} (hd : decode bytes pc = .ok (.iadd, 1)) (r : Go p l e R s m args below meth c n0 kc ks Q h cells slots (mkF m q L (.int (x + y) :: S))) : Go p l e R s m args below meth c n0 kc ks Q h cells slots (mkF m pc L (.int y :: .int x :: S)) := Go.of_step (fun T locs X _ t k => by subst hq; exact XS.iadd (g := mkF m pc L (.int y :: .int x :: S)) X.here K.1 rfl (hb K.2.2.2.1 hd) rfl k) r
theorem Go.isub (K : Cx Z own bytes maxL ret mn p s m meth c) (hq : pc + 1 = q) {x y : Int32} (hd : decode bytes pc = .ok (.isub, 1)) (r : Go p l e R s m args below meth c n0 kc ks Q h cells slots (mkF m q L (.int (x - y) :: S))) : Go p l e R s m args below meth c n0 kc ks Q h cells slots (mkF m pc L (.int y :: .int x :: S)) := Go.of_step (fun T locs X _ t k => by subst hq; exact XS.isub (g := mkF m pc L (.int y :: .int x :: S)) X.here K.1 rfl (hb K.2.2.2.1 hd) rfl k) r
theorem Go.imul (K : Cx Z own bytes maxL ret mn p s m meth c) (hq : pc + 1 = q) {x y : Int32} (hd : decode bytes pc = .ok (.imul, 1)) (r : Go p l e R s m args below meth c n0 kc ks Q h cells slots (mkF m q L (.int (x * y) :: S))) : Go p l e R s m args below meth c n0 kc ks Q h cells slots (mkF m pc L (.int y :: .int x :: S)) := Go.of_step (fun T locs X _ t k => by subst hq; exact XS.imul (g := mkF m pc L (.int y :: .int x :: S)) X.here K.1 rfl (hb K.2.2.2.1 hd) rfl k) r
theorem Go.iand (K : Cx Z own bytes maxL ret mn p s m meth c) (hq : pc + 1 = q) {x y : Int32} (hd : decode bytes pc = .ok (.iand, 1)) (r : Go p l e R s m args below meth c n0 kc ks Q h cells slots (mkF m q L (.int (x &&& y) :: S))) : Go p l e R s m args below meth c n0 kc ks Q h cells slots (mkF m pc L (.int y :: .int x :: S)) := Go.of_step (fun T locs X _ t k => by subst hq; exact XS.iand (g := mkF m pc L (.int y :: .int x :: S)) X.here K.1 rfl (hb K.2.2.2.1 hd) rfl k) r
theorem Go.ior (K : Cx Z own bytes maxL ret mn p s m meth c) (hq : pc + 1 = q) {x y : Int32} (hd : decode bytes pc = .ok (.ior, 1)) (r : Go p l e R s m args below meth c n0 kc ks Q h cells slots (mkF m q L (.int (x ||| y) :: S))) : Go p l e R s m args below meth c n0 kc ks Q h cells slots (mkF m pc L (.int y :: .int x :: S)) := Go.of_step (fun T locs X _ t k => by subst hq; exact XS.ior (g := mkF m pc L (.int y :: .int x :: S)) X.here K.1 rfl (hb K.2.2.2.1 hd) rfl k) r
theorem Go.ixor (K : Cx Z own bytes maxL ret mn p s m meth c) (hq : pc + 1 = q) {x y : Int32} (hd : decode bytes pc = .ok (.ixor, 1)) (r : Go p l e R s m args below meth c n0 kc ks Q h cells slots (mkF m q L (.int (x ^^^ y) :: S))) : Go p l e R s m args below meth c n0 kc ks Q h cells slots (mkF m pc L (.int y :: .int x :: S)) := Go.of_step (fun T locs X _ t k => by subst hq; exact XS.ixor (g := mkF m pc L (.int y :: .int x :: S)) X.here K.1 rfl (hb K.2.2.2.1 hd) rfl k) r
theorem Go.ishl (K : Cx Z own bytes maxL ret mn p s m meth c) (hq : pc + 1 = q) {x y : Int32} (hd : decode bytes pc = .ok (.ishl, 1)) (r : Go p l e R s m args below meth c n0 kc ks Q h cells slots (mkF m q L (.int (x <<< (y &&& 31)) :: S))) : Go p l e R s m args below meth c n0 kc ks Q h cells slots (mkF m pc L (.int y :: .int x :: S)) := Go.of_step (fun T locs X _ t k => by subst hq; exact XS.ishl (g := mkF m pc L (.int y :: .int x :: S)) X.here K.1 rfl (hb K.2.2.2.1 hd) rfl k) r
theorem Go.ishr (K : Cx Z own bytes maxL ret mn p s m meth c) (hq : pc + 1 = q) {x y : Int32} (hd : decode bytes pc = .ok (.ishr, 1)) (r : Go p l e R s m args below meth c n0 kc ks Q h cells slots (mkF m q L (.int (x >>> (y &&& 31)) :: S))) : Go p l e R s m args below meth c n0 kc ks Q h cells slots (mkF m pc L (.int y :: .int x :: S)) := Go.of_step (fun T locs X _ t k => by subst hq; exact XS.ishr (g := mkF m pc L (.int y :: .int x :: S)) X.here K.1 rfl (hb K.2.2.2.1 hd) rfl k) r
theorem Go.iushr (K : Cx Z own bytes maxL ret mn p s m meth c) (hq : pc + 1 = q) {x y : Int32} (hd : decode bytes pc = .ok (.iushr, 1)) (r : Go p l e R s m args below meth c n0 kc ks Q h cells slots (mkF m q L (.int ((x.toUInt32 >>> (y &&& 31).toUInt32).toInt32) :: S))) : Go p l e R s m args below meth c n0 kc ks Q h cells slots (mkF m pc L (.int y :: .int x :: S)) := Go.of_step (fun T locs X _ t k => by subst hq; exact XS.iushr (g := mkF m pc L (.int y :: .int x :: S)) X.here K.1 rfl (hb K.2.2.2.1 hd) rfl k) r
theorem Go.ladd (K : Cx Z own bytes maxL ret mn p s m meth c) (hq : pc + 1 = q) {x y : Int64} (hd : decode bytes pc = .ok (.ladd, 1)) (r : Go p l e R s m args below meth c n0 kc ks Q h cells slots (mkF m q L (.long (x + y) :: S))) : Go p l e R s m args below meth c n0 kc ks Q h cells slots (mkF m pc L (.long y :: .long x :: S)) := Go.of_step (fun T locs X _ t k => by subst hq; exact XS.ladd (g := mkF m pc L (.long y :: .long x :: S)) X.here K.1 rfl (hb K.2.2.2.1 hd) rfl k) r
theorem Go.lsub (K : Cx Z own bytes maxL ret mn p s m meth c) (hq : pc + 1 = q) {x y : Int64} (hd : decode bytes pc = .ok (.lsub, 1)) (r : Go p l e R s m args below meth c n0 kc ks Q h cells slots (mkF m q L (.long (x - y) :: S))) : Go p l e R s m args below meth c n0 kc ks Q h cells slots (mkF m pc L (.long y :: .long x :: S)) := Go.of_step (fun T locs X _ t k => by subst hq; exact XS.lsub (g := mkF m pc L (.long y :: .long x :: S)) X.here K.1 rfl (hb K.2.2.2.1 hd) rfl k) r
theorem Go.lmul (K : Cx Z own bytes maxL ret mn p s m meth c) (hq : pc + 1 = q) {x y : Int64} (hd : decode bytes pc = .ok (.lmul, 1)) (r : Go p l e R s m args below meth c n0 kc ks Q h cells slots (mkF m q L (.long (x * y) :: S))) : Go p l e R s m args below meth c n0 kc ks Q h cells slots (mkF m pc L (.long y :: .long x :: S)) := Go.of_step (fun T locs X _ t k => by subst hq; exact XS.lmul (g := mkF m pc L (.long y :: .long x :: S)) X.here K.1 rfl (hb K.2.2.2.1 hd) rfl k) r
theorem Go.land (K : Cx Z own bytes maxL ret mn p s m meth c) (hq : pc + 1 = q) {x y : Int64} (hd : decode bytes pc = .ok (.land, 1)) (r : Go p l e R s m args below meth c n0 kc ks Q h cells slots (mkF m q L (.long (x &&& y) :: S))) : Go p l e R s m args below meth c n0 kc ks Q h cells slots (mkF m pc L (.long y :: .long x :: S)) := Go.of_step (fun T locs X _ t k => by subst hq; exact XS.land (g := mkF m pc L (.long y :: .long x :: S)) X.here K.1 rfl (hb K.2.2.2.1 hd) rfl k) r
theorem Go.lor (K : Cx Z own bytes maxL ret mn p s m meth c) (hq : pc + 1 = q) {x y : Int64} (hd : decode bytes pc = .ok (.lor, 1)) (r : Go p l e R s m args below meth c n0 kc ks Q h cells slots (mkF m q L (.long (x ||| y) :: S))) : Go p l e R s m args below meth c n0 kc ks Q h cells slots (mkF m pc L (.long y :: .long x :: S)) := Go.of_step (fun T locs X _ t k => by subst hq; exact XS.lor (g := mkF m pc L (.long y :: .long x :: S)) X.here K.1 rfl (hb K.2.2.2.1 hd) rfl k) r
theorem Go.lxor (K : Cx Z own bytes maxL ret mn p s m meth c) (hq : pc + 1 = q) {x y : Int64} (hd : decode bytes pc = .ok (.lxor, 1)) (r : Go p l e R s m args below meth c n0 kc ks Q h cells slots (mkF m q L (.long (x ^^^ y) :: S))) : Go p l e R s m args below meth c n0 kc ks Q h cells slots (mkF m pc L (.long y :: .long x :: S)) := Go.of_step (fun T locs X _ t k => by subst hq; exact XS.lxor (g := mkF m pc L (.long y :: .long x :: S)) X.here K.1 rfl (hb K.2.2.2.1 hd) rfl k) r
theorem Go.lshl (K : Cx Z own bytes maxL ret mn p s m meth c) (hq : pc + 1 = q) {x : Int64} {y : Int32} (hd : decode bytes pc = .ok (.lshl, 1)) (r : Go p l e R s m args below meth c n0 kc ks Q h cells slots (mkF m q L (.long (x <<< (y &&& 0x3f).toInt64) :: S))) : Go p l e R s m args below meth c n0 kc ks Q h cells slots (mkF m pc L (.int y :: .long x :: S)) := Go.of_step (fun T locs X _ t k => by subst hq; exact XS.lshl (g := mkF m pc L (.int y :: .long x :: S)) X.here K.1 rfl (hb K.2.2.2.1 hd) rfl k) r
theorem Go.lshr (K : Cx Z own bytes maxL ret mn p s m meth c) (hq : pc + 1 = q) {x : Int64} {y : Int32} (hd : decode bytes pc = .ok (.lshr, 1)) (r : Go p l e R s m args below meth c n0 kc ks Q h cells slots (mkF m q L (.long (x >>> (y &&& 0x3f).toInt64) :: S))) : Go p l e R s m args below meth c n0 kc ks Q h cells slots (mkF m pc L (.int y :: .long x :: S)) := Go.of_step (fun T locs X _ t k => by subst hq; exact XS.lshr (g := mkF m pc L (.int y :: .long x :: S)) X.here K.1 rfl (hb K.2.2.2.1 hd) rfl k) r
theorem Go.lushr (K : Cx Z own bytes maxL ret mn p s m meth c) (hq : pc + 1 = q) {x : Int64} {y : Int32} (hd : decode bytes pc = .ok (.lushr, 1)) (r : Go p l e R s m args below meth c n0 kc ks Q h cells slots (mkF m q L (.long ((x.toUInt64 >>> (y &&& 0x3f).toInt64.toUInt64).toInt64) :: S))) : Go p l e R s m args below meth c n0 kc ks Q h cells slots (mkF m pc L (.int y :: .long x :: S)) := Go.of_step (fun T locs X _ t k => by subst hq; exact XS.lushr (g := mkF m pc L (.int y :: .long x :: S)) X.here K.1 rfl (hb K.2.2.2.1 hd) rfl k) r
theorem Go.lcmp (K : Cx Z own bytes maxL ret mn p s m meth c) (hq : pc + 1 = q) {x y : Int64} (hd : decode bytes pc = .ok (.lcmp, 1)) (r : Go p l e R s m args below meth c n0 kc ks Q h cells slots (mkF m q L (.int (lcmpW x y) :: S))) : Go p l e R s m args below meth c n0 kc ks Q h cells slots (mkF m pc L (.long y :: .long x :: S)) := Go.of_step (fun T locs X _ t k => by subst hq; exact XS.lcmp (g := mkF m pc L (.long y :: .long x :: S)) X.here K.1 rfl (hb K.2.2.2.1 hd) rfl k) r
theorem Go.ineg (K : Cx Z own bytes maxL ret mn p s m meth c) (hq : pc + 1 = q) {x : Int32} (hd : decode bytes pc = .ok (.ineg, 1)) (r : Go p l e R s m args below meth c n0 kc ks Q h cells slots (mkF m q L (.int (-x) :: S))) : Go p l e R s m args below meth c n0 kc ks Q h cells slots (mkF m pc L (.int x :: S)) := Go.of_step (fun T locs X _ t k => by subst hq; exact XS.ineg (g := mkF m pc L (.int x :: S)) X.here K.1 rfl (hb K.2.2.2.1 hd) rfl k) r
theorem Go.i2l (K : Cx Z own bytes maxL ret mn p s m meth c) (hq : pc + 1 = q) {x : Int32} (hd : decode bytes pc = .ok (.i2l, 1)) (r : Go p l e R s m args below meth c n0 kc ks Q h cells slots (mkF m q L (.long x.toInt64 :: S))) : Go p l e R s m args below meth c n0 kc ks Q h cells slots (mkF m pc L (.int x :: S)) := Go.of_step (fun T locs X _ t k => by subst hq; exact XS.i2l (g := mkF m pc L (.int x :: S)) X.here K.1 rfl (hb K.2.2.2.1 hd) rfl k) r
theorem Go.l2i (K : Cx Z own bytes maxL ret mn p s m meth c) (hq : pc + 1 = q) {x : Int64} (hd : decode bytes pc = .ok (.l2i, 1)) (r : Go p l e R s m args below meth c n0 kc ks Q h cells slots (mkF m q L (.int x.toInt32 :: S))) : Go p l e R s m args below meth c n0 kc ks Q h cells slots (mkF m pc L (.long x :: S)) := Go.of_step (fun T locs X _ t k => by subst hq; exact XS.l2i (g := mkF m pc L (.long x :: S)) X.here K.1 rfl (hb K.2.2.2.1 hd) rfl k) r
theorem Go.i2b (K : Cx Z own bytes maxL ret mn p s m meth c) (hq : pc + 1 = q) {x : Int32} (hd : decode bytes pc = .ok (.i2b, 1)) (r : Go p l e R s m args below meth c n0 kc ks Q h cells slots (mkF m q L (.int x.toInt8.toInt32 :: S))) : Go p l e R s m args below meth c n0 kc ks Q h cells slots (mkF m pc L (.int x :: S)) := Go.of_step (fun T locs X _ t k => by subst hq; exact XS.i2b (g := mkF m pc L (.int x :: S)) X.here K.1 rfl (hb K.2.2.2.1 hd) rfl k) r
theorem Go.i2s (K : Cx Z own bytes maxL ret mn p s m meth c) (hq : pc + 1 = q) {x : Int32} (hd : decode bytes pc = .ok (.i2s, 1)) (r : Go p l e R s m args below meth c n0 kc ks Q h cells slots (mkF m q L (.int x.toInt16.toInt32 :: S))) : Go p l e R s m args below meth c n0 kc ks Q h cells slots (mkF m pc L (.int x :: S)) := Go.of_step (fun T locs X _ t k => by subst hq; exact XS.i2s (g := mkF m pc L (.int x :: S)) X.here K.1 rfl (hb K.2.2.2.1 hd) rfl k) r
theorem Go.i2c (K : Cx Z own bytes maxL ret mn p s m meth c) (hq : pc + 1 = q) {x : Int32} (hd : decode bytes pc = .ok (.i2c, 1)) (r : Go p l e R s m args below meth c n0 kc ks Q h cells slots (mkF m q L (.int x.toUInt32.toUInt16.toUInt32.toInt32 :: S))) : Go p l e R s m args below meth c n0 kc ks Q h cells slots (mkF m pc L (.int x :: S)) := Go.of_step (fun T locs X _ t k => by subst hq; exact XS.i2c (g := mkF m pc L (.int x :: S)) X.here K.1 rfl (hb K.2.2.2.1 hd) rfl k) r
theorem Go.irem (K : Cx Z own bytes maxL ret mn p s m meth c) (hq : pc + 1 = q) {x y : Int32} (hd : decode bytes pc = .ok (.irem, 1)) (hy : y ≠ 0) (r : Go p l e R s m args below meth c n0 kc ks Q h cells slots (mkF m q L (.int (x % y) :: S))) : Go p l e R s m args below meth c n0 kc ks Q h cells slots (mkF m pc L (.int y :: .int x :: S)) := Go.of_step (fun T locs X _ t k => by subst hq; exact iremM (g := mkF m pc L (.int y :: .int x :: S)) X K.1 rfl (hb K.2.2.2.1 hd) rfl hy k) r
theorem Go.idiv (K : Cx Z own bytes maxL ret mn p s m meth c) (hq : pc + 1 = q) {x y : Int32} (hd : decode bytes pc = .ok (.idiv, 1)) (hy : y ≠ 0) (r : Go p l e R s m args below meth c n0 kc ks Q h cells slots (mkF m q L (.int (x / y) :: S))) : Go p l e R s m args below meth c n0 kc ks Q h cells slots (mkF m pc L (.int y :: .int x :: S)) := Go.of_step (fun T locs X _ t k => by subst hq; exact XS.idiv (g := mkF m pc L (.int y :: .int x :: S)) X.here K.1 rfl (hb K.2.2.2.1 hd) rfl hy k) r
theorem Go.dup (K : Cx Z own bytes maxL ret mn p s m meth c) (hq : pc + 1 = q) {x : Value} (hd : decode bytes pc = .ok (.dup, 1)) (hc : x.category = 1) (r : Go p l e R s m args below meth c n0 kc ks Q h cells slots (mkF m q L (x :: x :: S))) : Go p l e R s m args below meth c n0 kc ks Q h cells slots (mkF m pc L (x :: S)) := Go.of_step (fun T locs X _ t k => by subst hq; exact XS.dup (g := mkF m pc L (x :: S)) X.here K.1 rfl (hb K.2.2.2.1 hd) rfl hc k) r
theorem Go.dupX1 (K : Cx Z own bytes maxL ret mn p s m meth c) (hq : pc + 1 = q) {x y : Value} (hd : decode bytes pc = .ok (.dup_x1, 1)) (hc : x.category = 1) (hc' : y.category = 1) (r : Go p l e R s m args below meth c n0 kc ks Q h cells slots (mkF m q L (x :: y :: x :: S))) : Go p l e R s m args below meth c n0 kc ks Q h cells slots (mkF m pc L (x :: y :: S)) := Go.of_step (fun T locs X _ t k => by subst hq; exact XS.dupX1 (g := mkF m pc L (x :: y :: S)) X.here K.1 rfl (hb K.2.2.2.1 hd) rfl hc hc' k) r
theorem Go.pop (K : Cx Z own bytes maxL ret mn p s m meth c) (hq : pc + 1 = q) {x : Value} (hd : decode bytes pc = .ok (.pop, 1)) (hc : x.category = 1) (r : Go p l e R s m args below meth c n0 kc ks Q h cells slots (mkF m q L S)) : Go p l e R s m args below meth c n0 kc ks Q h cells slots (mkF m pc L (x :: S)) := Go.of_step (fun T locs X _ t k => by subst hq; exact XS.pop (g := mkF m pc L (x :: S)) X.here K.1 rfl (hb K.2.2.2.1 hd) rfl hc k) r
theorem Go.istoreN (K : Cx Z own bytes maxL ret mn p s m meth c) (hq : pc + 1 = q) {k : Fin 4} {x : Int32} {L' : Array Slot} (hd : decode bytes pc = .ok (.istore_n k, 1)) (hl : storeLocals L k.val (.int x) = some L') (r : Go p l e R s m args below meth c n0 kc ks Q h cells slots (mkF m q L' S)) : Go p l e R s m args below meth c n0 kc ks Q h cells slots (mkF m pc L (.int x :: S)) := Go.of_step (fun T locs X _ t k => by subst hq; exact XS.istoreN (g := mkF m pc L (.int x :: S)) X.here K.1 rfl (hb K.2.2.2.1 hd) rfl hl k) r
theorem Go.istore (K : Cx Z own bytes maxL ret mn p s m meth c) (hq : pc + 2 = q) {k : Nat} {x : Int32} {L' : Array Slot} (hd : decode bytes pc = .ok (.istore k, 2)) (hl : storeLocals L k (.int x) = some L') (r : Go p l e R s m args below meth c n0 kc ks Q h cells slots (mkF m q L' S)) : Go p l e R s m args below meth c n0 kc ks Q h cells slots (mkF m pc L (.int x :: S)) := Go.of_step (fun T locs X _ t k => by subst hq; exact XS.istore (g := mkF m pc L (.int x :: S)) X.here K.1 rfl (hb K.2.2.2.1 hd) rfl hl k) r
theorem Go.lstoreN (K : Cx Z own bytes maxL ret mn p s m meth c) (hq : pc + 1 = q) {k : Fin 4} {x : Int64} {L' : Array Slot} (hd : decode bytes pc = .ok (.lstore_n k, 1)) (hl : storeLocals L k.val (.long x) = some L') (r : Go p l e R s m args below meth c n0 kc ks Q h cells slots (mkF m q L' S)) : Go p l e R s m args below meth c n0 kc ks Q h cells slots (mkF m pc L (.long x :: S)) := Go.of_step (fun T locs X _ t k => by subst hq; exact XS.lstoreN (g := mkF m pc L (.long x :: S)) X.here K.1 rfl (hb K.2.2.2.1 hd) rfl hl k) r
theorem Go.lstore (K : Cx Z own bytes maxL ret mn p s m meth c) (hq : pc + 2 = q) {k : Nat} {x : Int64} {L' : Array Slot} (hd : decode bytes pc = .ok (.lstore k, 2)) (hl : storeLocals L k (.long x) = some L') (r : Go p l e R s m args below meth c n0 kc ks Q h cells slots (mkF m q L' S)) : Go p l e R s m args below meth c n0 kc ks Q h cells slots (mkF m pc L (.long x :: S)) := Go.of_step (fun T locs X _ t k => by subst hq; exact XS.lstore (g := mkF m pc L (.long x :: S)) X.here K.1 rfl (hb K.2.2.2.1 hd) rfl hl k) r
theorem Go.astoreN (K : Cx Z own bytes maxL ret mn p s m meth c) (hq : pc + 1 = q) {k : Fin 4} {x : Value} {L' : Array Slot} (hd : decode bytes pc = .ok (.astore_n k, 1)) (hv : x.isRef = true) (hl : storeLocals L k.val x = some L') (r : Go p l e R s m args below meth c n0 kc ks Q h cells slots (mkF m q L' S)) : Go p l e R s m args below meth c n0 kc ks Q h cells slots (mkF m pc L (x :: S)) := Go.of_step (fun T locs X _ t k => by subst hq; exact XS.astoreN (g := mkF m pc L (x :: S)) X.here K.1 rfl (hb K.2.2.2.1 hd) rfl hv hl k) r
theorem Go.astore (K : Cx Z own bytes maxL ret mn p s m meth c) (hq : pc + 2 = q) {k : Nat} {x : Value} {L' : Array Slot} (hd : decode bytes pc = .ok (.astore k, 2)) (hv : x.isRef = true) (hl : storeLocals L k x = some L') (r : Go p l e R s m args below meth c n0 kc ks Q h cells slots (mkF m q L' S)) : Go p l e R s m args below meth c n0 kc ks Q h cells slots (mkF m pc L (x :: S)) := Go.of_step (fun T locs X _ t k => by subst hq; exact XS.astore (g := mkF m pc L (x :: S)) X.here K.1 rfl (hb K.2.2.2.1 hd) rfl hv hl k) r
theorem Go.iinc (K : Cx Z own bytes maxL ret mn p s m meth c) (hq : pc + 3 = q) {k : Nat} {cst : Int} {x y : Int32} {L' : Array Slot} (hy : Int32.ofInt cst = y) (hd : decode bytes pc = .ok (.iinc k cst, 3)) (hl0 : L[k]? = some (.val (.int x))) (hl : storeLocals L k (.int (x + y)) = some L') (r : Go p l e R s m args below meth c n0 kc ks Q h cells slots (mkF m q L' S)) : Go p l e R s m args below meth c n0 kc ks Q h cells slots (mkF m pc L S) := Go.of_step (fun T locs X _ t k => by subst hq hy; exact XS.iinc (g := mkF m pc L S) X.here K.1 rfl (hb K.2.2.2.1 hd) hl0 hl k) r
theorem Go.goto (K : Cx Z own bytes maxL ret mn p s m meth c) {o : Int} (ho : 0 ≤ (pc : Int) + o) (hq : ((pc : Int) + o).toNat = q) (hd : decode bytes pc = .ok (.goto o, 3)) (r : Go p l e R s m args below meth c n0 kc ks Q h cells slots (mkF m q L S)) : Go p l e R s m args below meth c n0 kc ks Q h cells slots (mkF m pc L S) := Go.of_step (fun T locs X _ t k => XS.goto (g := mkF m pc L S) X.here K.1 rfl (pc0 := pc) (pc' := q) rfl (hb K.2.2.2.1 hd) ho hq k) r
theorem Go.ifY (K : Cx Z own bytes maxL ret mn p s m meth c) {o : Int} {cd : ClassFile.Cond} {x : Int32} (ho : 0 ≤ (pc : Int) + o) (hq : ((pc : Int) + o).toNat = q) (hd : decode bytes pc = .ok (.ifCond cd o, 3)) (hc : cdP cd x 0) (r : Go p l e R s m args below meth c n0 kc ks Q h cells slots (mkF m q L S)) : Go p l e R s m args below meth c n0 kc ks Q h cells slots (mkF m pc L (.int x :: S)) := Go.of_step (fun T locs X _ t k => XS.ifYes (g := mkF m pc L (.int x :: S)) X.here K.1 rfl (pc0 := pc) (pc' := q) rfl (hb K.2.2.2.1 hd) rfl ((if0 _ _).trans (cd_yes hc)) ho hq k) r
theorem Go.ifN (K : Cx Z own bytes maxL ret mn p s m meth c) {o : Int} {cd : ClassFile.Cond} {x : Int32} (hq : pc + 3 = q) (hd : decode bytes pc = .ok (.ifCond cd o, 3)) (hc : cdN cd x 0) (r : Go p l e R s m args below meth c n0 kc ks Q h cells slots (mkF m q L S)) : Go p l e R s m args below meth c n0 kc ks Q h cells slots (mkF m pc L (.int x :: S)) := Go.of_step (fun T locs X _ t k => by subst hq; exact XS.ifNo (g := mkF m pc L (.int x :: S)) X.here K.1 rfl (hb K.2.2.2.1 hd) rfl ((if0 _ _).trans (cd_no hc)) k) r
theorem Go.icmpY (K : Cx Z own bytes maxL ret mn p s m meth c) {o : Int} {cd : ClassFile.Cond} {x y : Int32} (ho : 0 ≤ (pc : Int) + o) (hq : ((pc : Int) + o).toNat = q) (hd : decode bytes pc = .ok (.if_icmp cd o, 3)) (hc : cdP cd x y) (r : Go p l e R s m args below meth c n0 kc ks Q h cells slots (mkF m q L S)) : Go p l e R s m args below meth c n0 kc ks Q h cells slots (mkF m pc L (.int y :: .int x :: S)) := Go.of_step (fun T locs X _ t k => XS.icmpYes (g := mkF m pc L (.int y :: .int x :: S)) X.here K.1 rfl (pc0 := pc) (pc' := q) rfl (hb K.2.2.2.1 hd) rfl (cd_yes hc) ho hq k) r
theorem Go.icmpN (K : Cx Z own bytes maxL ret mn p s m meth c) {o : Int} {cd : ClassFile.Cond} {x y : Int32} (hq : pc + 3 = q) (hd : decode bytes pc = .ok (.if_icmp cd o, 3)) (hc : cdN cd x y) (r : Go p l e R s m args below meth c n0 kc ks Q h cells slots (mkF m q L S)) : Go p l e R s m args below meth c n0 kc ks Q h cells slots (mkF m pc L (.int y :: .int x :: S)) := Go.of_step (fun T locs X _ t k => by subst hq; exact XS.icmpNo (g := mkF m pc L (.int y :: .int x :: S)) X.here K.1 rfl (hb K.2.2.2.1 hd) rfl (cd_no hc) k) r
theorem Go.ifc (K : Cx Z own bytes maxL ret mn p s m meth c) {o : Int} {cd : ClassFile.Cond} {x : Int32} {q' : Nat} (ho : 0 ≤ (pc : Int) + o) (hq : ((pc : Int) + o).toNat = q) (hq' : pc + 3 = q') (hd : decode bytes pc = .ok (.ifCond cd o, 3)) (r : cdP cd x 0 → Go p l e R s m args below meth c n0 kc ks Q h cells slots (mkF m q L S)) (r' : cdN cd x 0 → Go p l e R s m args below meth c n0 kc ks Q h cells slots (mkF m q' L S)) : Go p l e R s m args below meth c n0 kc ks Q h cells slots (mkF m pc L (.int x :: S)) :=
  (cd_em cd x 0).elim (fun hc => Go.ifY K ho hq hd hc (r hc)) (fun hc => Go.ifN K hq' hd hc (r' hc))
theorem Go.icmp (K : Cx Z own bytes maxL ret mn p s m meth c) {o : Int} {cd : ClassFile.Cond} {x y : Int32} {q' : Nat} (ho : 0 ≤ (pc : Int) + o) (hq : ((pc : Int) + o).toNat = q) (hq' : pc + 3 = q') (hd : decode bytes pc = .ok (.if_icmp cd o, 3)) (r : cdP cd x y → Go p l e R s m args below meth c n0 kc ks Q h cells slots (mkF m q L S)) (r' : cdN cd x y → Go p l e R s m args below meth c n0 kc ks Q h cells slots (mkF m q' L S)) : Go p l e R s m args below meth c n0 kc ks Q h cells slots (mkF m pc L (.int y :: .int x :: S)) :=
  (cd_em cd x y).elim (fun hc => Go.icmpY K ho hq hd hc (r hc)) (fun hc => Go.icmpN K hq' hd hc (r' hc))
theorem Go.ifnullY (K : Cx Z own bytes maxL ret mn p s m meth c) {o : Int} (ho : 0 ≤ (pc : Int) + o) (hq : ((pc : Int) + o).toNat = q) (hd : decode bytes pc = .ok (.ifnull o, 3)) (r : Go p l e R s m args below meth c n0 kc ks Q h cells slots (mkF m q L S)) : Go p l e R s m args below meth c n0 kc ks Q h cells slots (mkF m pc L (.null :: S)) := Go.of_step (fun T locs X _ t k => XS.ifnullYes (g := mkF m pc L (.null :: S)) X.here K.1 rfl (pc0 := pc) (pc' := q) rfl (hb K.2.2.2.1 hd) rfl ho hq k) r
theorem Go.ifnullN (K : Cx Z own bytes maxL ret mn p s m meth c) {o : Int} {b : Addr} (hq : pc + 3 = q) (hd : decode bytes pc = .ok (.ifnull o, 3)) (r : Go p l e R s m args below meth c n0 kc ks Q h cells slots (mkF m q L S)) : Go p l e R s m args below meth c n0 kc ks Q h cells slots (mkF m pc L (.ref b :: S)) := Go.of_step (fun T locs X _ t k => by subst hq; exact XS.ifnullNo (g := mkF m pc L (.ref b :: S)) X.here K.1 rfl (hb K.2.2.2.1 hd) rfl k) r
theorem Go.ifnonnullY (K : Cx Z own bytes maxL ret mn p s m meth c) {o : Int} {b : Addr} (ho : 0 ≤ (pc : Int) + o) (hq : ((pc : Int) + o).toNat = q) (hd : decode bytes pc = .ok (.ifnonnull o, 3)) (r : Go p l e R s m args below meth c n0 kc ks Q h cells slots (mkF m q L S)) : Go p l e R s m args below meth c n0 kc ks Q h cells slots (mkF m pc L (.ref b :: S)) := Go.of_step (fun T locs X _ t k => XS.ifnonnullYes (g := mkF m pc L (.ref b :: S)) X.here K.1 rfl (pc0 := pc) (pc' := q) rfl (hb K.2.2.2.1 hd) rfl ho hq k) r
theorem Go.ifnonnullN (K : Cx Z own bytes maxL ret mn p s m meth c) {o : Int} (hq : pc + 3 = q) (hd : decode bytes pc = .ok (.ifnonnull o, 3)) (r : Go p l e R s m args below meth c n0 kc ks Q h cells slots (mkF m q L S)) : Go p l e R s m args below meth c n0 kc ks Q h cells slots (mkF m pc L (.null :: S)) := Go.of_step (fun T locs X _ t k => by subst hq; exact XS.ifnonnullNo (g := mkF m pc L (.null :: S)) X.here K.1 rfl (hb K.2.2.2.1 hd) rfl k) r
theorem Go.acmp (K : Cx Z own bytes maxL ret mn p s m meth c) {o : Int} {cd : ACond} {x y : Value} (h1 : x.isRef = true) (h2 : y.isRef = true) {same : Bool} (hs : decide (x = y) = same) (ho : 0 ≤ (pc : Int) + o) (hq : q = if acV cd same = true then ((pc : Int) + o).toNat else pc + 3) (hd : decode bytes pc = .ok (.if_acmp cd o, 3)) (r : Go p l e R s m args below meth c n0 kc ks Q h cells slots (mkF m q L S)) : Go p l e R s m args below meth c n0 kc ks Q h cells slots (mkF m pc L (y :: x :: S)) := Go.of_step (fun T locs X _ t k => Jvm.RoadKit.acmp (g := mkF m pc L (y :: x :: S)) X K.1 rfl h1 h2 (pc0 := pc) (pc' := q) rfl (hb K.2.2.2.1 hd) rfl hs ho hq k) r
/-! ends -/
theorem Go.end_ {pc : Nat} {f : JFrame} (K : Cx Z own bytes maxL ret mn p s m meth c) {v : Option Value} (hv : ret = none → v = none) (hk : cells ≤ kc) (hs : slots ≤ ks) (hQ : Q v h)
    (st : ∀ T locs, Stand p l e R s m args below meth c T locs cells slots → ∀ fs, (∀ (f : JFrame) (acts : List Action), f.method = m → f.locked = none → f.entered = [] → (doReturn e (T.setTop f) acts v).1 = T.setFrames fs) → Steps p.tables e below (T.setTop f) (T.setFrames fs)) : Go p l e R s m args below meth c n0 kc ks Q h cells slots f := fun T locs X eT N => by
  obtain ⟨fs, hr, hrun, hended, hW, hsame⟩ := X.leave (v := v) (fun q => hv (K.2.2.2.2.2.1.symm.trans q)) K.2.2.2.2.2.2.1
  exact ⟨_, _, st T locs X fs hr, hrun, hended, v, locs, rfl, ⟨by show Q v T.heap; rw [eT]; exact hQ, N⟩, ⟨_, rfl⟩, hW, hsame.mono hk hs⟩
theorem Go.retV (K : Cx Z own bytes maxL none mn p s m meth c) (hd : decode bytes pc = .ok (.return_, 1)) (hk : cells ≤ kc) (hs : slots ≤ ks) (hQ : Q none h) : Go p l e R s m args below meth c n0 kc ks Q h cells slots (mkF m pc L []) :=
  Go.end_ (pc := pc) K (fun _ => rfl) hk hs hQ fun T locs X fs hr => X.returnOut K.1 K.2.2.2.2.2.1 (hb K.2.2.2.1 hd) hr
theorem Go.retN {t : FieldType} {z : Int32} (K : Cx Z own bytes maxL (some t) mn p s m meth c) (ht : t = .boolean ∨ t = .byte ∨ t = .char ∨ t = .short) (hd : decode bytes pc = .ok (.ireturn, 1)) (hk : cells ≤ kc) (hs : slots ≤ ks) (hQ : Q (some (.int (nar t z))) h) : Go p l e R s m args below meth c n0 kc ks Q h cells slots (mkF m pc L (.int z :: S)) :=
  Go.end_ (pc := pc) K (fun q => by cases q) hk hs hQ fun T locs X fs hr => Jvm.RoadKit.retN X K.1 K.2.2.2.2.2.1 ht (hb K.2.2.2.1 hd) hr
theorem Go.retI {z : Int32} (K : Cx Z own bytes maxL (some .int) mn p s m meth c) (hd : decode bytes pc = .ok (.ireturn, 1)) (hk : cells ≤ kc) (hs : slots ≤ ks) (hQ : Q (some (.int z)) h) : Go p l e R s m args below meth c n0 kc ks Q h cells slots (mkF m pc L [.int z]) :=
  Go.end_ (pc := pc) K (fun q => by cases q) hk hs hQ fun T locs X fs hr => X.ireturnOut K.1 K.2.2.2.2.2.1 rfl (Or.inl rfl) (hb K.2.2.2.1 hd) hr
theorem Go.retA {t : FieldType} {w : Value} (K : Cx Z own bytes maxL (some t) mn p s m meth c) (ht : t.isReference = true) (hw : w.isRef = true) (hd : decode bytes pc = .ok (.areturn, 1)) (hk : cells ≤ kc) (hs : slots ≤ ks) (hQ : Q (some w) h) : Go p l e R s m args below meth c n0 kc ks Q h cells slots (mkF m pc L [w]) :=
  Go.end_ (pc := pc) K (fun q => by cases q) hk hs hQ fun T locs X fs hr => X.areturnOut K.1 hw K.2.2.2.2.2.1 ht (hb K.2.2.2.1 hd) hr
theorem Go.retJ {z : Int64} (K : Cx Z own bytes maxL (some .long) mn p s m meth c) (hd : decode bytes pc = .ok (.lreturn, 1)) (hk : cells ≤ kc) (hs : slots ≤ ks) (hQ : Q (some (.long z)) h) : Go p l e R s m args below meth c n0 kc ks Q h cells slots (mkF m pc L [.long z]) :=
  Go.end_ (pc := pc) K (fun q => by cases q) hk hs hQ fun T locs X fs hr => X.lreturnOut K.1 K.2.2.2.2.2.1 (hb K.2.2.2.1 hd) hr
/-! the heap -/
theorem Go.getF (K : Cx Z own bytes maxL ret mn p s m meth c) (hq : pc + 3 = q) {R0 O n d : String} {i : Nat} (w : (Cond.fieldLink own i R0 n d).before a0 Z = true) (via : Via Z R0 O n d) {a : Addr} {v : Value} (F : Fld Z h a O n d v) (hd : decode bytes pc = .ok (.getfield i, 3)) (r : Go p l e R s m args below meth c n0 kc ks Q h cells slots (mkF m q L (v :: S))) : Go p l e R s m args below meth c n0 kc ks Q h cells slots (mkF m pc L (.ref a :: S)) :=
  Go.of_warm (fun T locs X eT => by subst hq; exact Jvm.RoadKit.getF X K.1 K.2.1 K.2.2.1 (host := "") (Or.inl w) via eT F (g := mkF m pc L (.ref a :: S)) rfl rfl (hb K.2.2.2.1 hd)) r
theorem Go.getS (K : Cx Z own bytes maxL ret mn p s m meth c) (hq : pc + 3 = q) {R0 O n d : String} {i : Nat} (w : (Cond.fieldLink own i R0 n d).before a0 Z = true) (via : Via Z R0 O n d) {v : Value} (F : Sta Z h O n d v) (hd : decode bytes pc = .ok (.getstatic i, 3)) (r : Go p l e R s m args below meth c n0 kc ks Q h cells slots (mkF m q L (v :: S))) : Go p l e R s m args below meth c n0 kc ks Q h cells slots (mkF m pc L S) :=
  Go.of_warm (fun T locs X eT => by subst hq; exact Jvm.RoadKit.getS (host := "") X K.1 K.2.1 K.2.2.1 w via eT F (g := mkF m pc L S) rfl (hb K.2.2.2.1 hd)) r
theorem Go.castY (K : Cx Z own bytes maxL ret mn p s m meth c) (hq : pc + 3 = q) {C : String} {i : Nat} (w : (Cond.classLink own i C).before a0 Z = true) {a : Addr} (F : Ins Z h a C true) (hd : decode bytes pc = .ok (.checkcast i, 3)) (r : Go p l e R s m args below meth c n0 kc ks Q h cells slots (mkF m q L (.ref a :: S))) : Go p l e R s m args below meth c n0 kc ks Q h cells slots (mkF m pc L (.ref a :: S)) :=
  Go.of_warm (fun T locs X eT => by subst hq; exact Jvm.RoadKit.castY X K.1 K.2.1 K.2.2.1 w eT F (g := mkF m pc L (.ref a :: S)) rfl rfl (hb K.2.2.2.1 hd)) r
theorem Go.instY (K : Cx Z own bytes maxL ret mn p s m meth c) (hq : pc + 3 = q) {C : String} {i : Nat} (w : (Cond.classLink own i C).before a0 Z = true) {a : Addr} (F : Ins Z h a C true) (hd : decode bytes pc = .ok (.instanceof i, 3)) (r : Go p l e R s m args below meth c n0 kc ks Q h cells slots (mkF m q L (.int 1 :: S))) : Go p l e R s m args below meth c n0 kc ks Q h cells slots (mkF m pc L (.ref a :: S)) :=
  Go.of_warm (fun T locs X eT => by subst hq; exact Jvm.RoadKit.instY X K.1 K.2.1 K.2.2.1 w eT F (g := mkF m pc L (.ref a :: S)) rfl rfl (hb K.2.2.2.1 hd)) r
theorem Go.instNull (K : Cx Z own bytes maxL ret mn p s m meth c) (hq : pc + 3 = q) {i : Nat} (hd : decode bytes pc = .ok (.instanceof i, 3)) (r : Go p l e R s m args below meth c n0 kc ks Q h cells slots (mkF m q L (.int 0 :: S))) : Go p l e R s m args below meth c n0 kc ks Q h cells slots (mkF m pc L (.null :: S)) :=
  Go.of_step (fun T locs X _ t k => by subst hq; exact X.instanceofNull K.1 (g := mkF m pc L (.null :: S)) rfl rfl (hb K.2.2.2.1 hd) _ k) r
theorem Go.castNull (K : Cx Z own bytes maxL ret mn p s m meth c) (hq : pc + 3 = q) {i : Nat} (hd : decode bytes pc = .ok (.checkcast i, 3)) (r : Go p l e R s m args below meth c n0 kc ks Q h cells slots (mkF m q L (.null :: S))) : Go p l e R s m args below meth c n0 kc ks Q h cells slots (mkF m pc L (.null :: S)) :=
  Go.of_step (fun T locs X _ t k => by subst hq; exact X.checkcastNull K.1 (g := mkF m pc L (.null :: S)) rfl rfl (hb K.2.2.2.1 hd) _ k) r
theorem Go.putF (K : Cx Z own bytes maxL ret mn p s m meth c) (hq : pc + 3 = q) {R0 O n d C : String} {i kk : Nat} {ty : FieldType} (w : (Cond.fieldLink own i R0 n d).before a0 Z = true) (via : Via Z R0 O n d) {a : Addr} {v old : Value} (F : Fld Z h a O n d old) (E : Exa Z h a C) (Ly : (Cond.lays C O n d).before a0 Z = true ∨ ((Cond.laysFinal C O n d).before a0 Z = true ∧ own = O ∧ mn = "<init>")) (wi : (Cond.instantiable C kk).before a0 Z = true)
    (hty : parseFieldDescriptor d = some ty) (hn : narrow ty v = v) (hf : fits ty v = true) (hd : decode bytes pc = .ok (.putfield i, 3)) (ha : n0 ≤ a) (r : ∀ h', Wr h h' a (Jvm.RoadKit.slotOf Z O n d) v → Fld Z h' a O n d v → Exa Z h' a C → Go p l e R s m args below meth c n0 kc ks Q h' cells slots (mkF m q L S)) : Go p l e R s m args below meth c n0 kc ks Q h cells slots (mkF m pc L (v :: .ref a :: S)) := fun T locs X eT N => by
  subst hq
  obtain ⟨T', h', X', eT', W, st⟩ := Jvm.RoadKit.putF X K.1 K.2.1 K.2.2.1 (host := "") (Or.inl w) via eT F E (Ly.imp id fun z => ⟨z.1, z.2.1, K.2.2.2.2.2.2.2.trans z.2.2⟩) wi hty hn hf (g := mkF m pc L (v :: .ref a :: S)) rfl rfl (hb K.2.2.2.1 hd)
  obtain ⟨s₂, o, a1, a2⟩ := r h' W (F.same W) (E.wr W) T' _ X' eT' (Fr.snoc X' N ha)
  exact ⟨s₂, o, st _ a1, a2⟩
theorem Go.new (K : Cx Z own bytes maxL ret mn p s m meth c) (hq : pc + 3 = q) {C : String} {i k : Nat} {cells' slots' : Nat} (w : (Cond.classLink own i C).before a0 Z = true) (wi : (Cond.instantiable C k).before a0 Z = true) (wz : (Cond.initialized C).before a0 Z = true) (hd : decode bytes pc = .ok (.new i, 3)) (hc : cells + 1 = cells') (hs : slots + k = slots') (hc' : cells' ≤ R.cells) (hs' : slots' ≤ R.slots)
    (r : ∀ h' a, a = h.size → Ext h h' → Exa Z h' a C → (∀ {O nm d : String} {ty : FieldType}, Laid Z a0 C O nm d → parseFieldDescriptor d = some ty → Fld Z h' a O nm d (defaultValue ty)) → Go p l e R s m args below meth c n0 kc ks Q h' cells' slots' (mkF m q L (.ref a :: S))) : Go p l e R s m args below meth c n0 kc ks Q h cells slots (mkF m pc L S) := fun T locs X eT N => by
  subst hq hc hs
  obtain ⟨T', h', X', eT', E, A, D, -, st⟩ := newO X K.1 K.2.1 K.2.2.1 w wi wz eT (g := mkF m pc L S) rfl (hb K.2.2.2.1 hd) hc' hs'
  obtain ⟨s₂, o, a1, a2⟩ := r h' _ rfl E A D T' _ X' eT' N
  exact ⟨s₂, o, st _ a1, a2⟩
theorem Go.newarr (K : Cx Z own bytes maxL ret mn p s m meth c) (hq : pc + 2 = q) {aty : ArrayType} {z : Int32} {cap cells' slots' : Nat} (w : (Cond.arrayClass (newarray.typeOf aty)).before a0 Z = true) (hd : decode bytes pc = .ok (.newarray aty, 2)) (hz : ¬ z < 0) (hcap : z.toNatClampNeg ≤ cap) (hb8 : cap * 8 ≤ 536870912) (hc : cells + 1 = cells') (hs : slots + cap = slots') (hc' : cells' ≤ R.cells) (hs' : slots' ≤ R.slots)
    (r : ∀ h' a k, a = h.size → Ext h h' → Arv Z h' a k (newarray.typeOf aty) z (List.replicate z.toNatClampNeg (defaultValue (newarray.typeOf aty))) (defaultValue (newarray.typeOf aty)) → Go p l e R s m args below meth c n0 kc ks Q h' cells' slots' (mkF m q L (.ref a :: S))) : Go p l e R s m args below meth c n0 kc ks Q h cells slots (mkF m pc L (.int z :: S)) := fun T locs X eT N => by
  subst hq hc hs
  obtain ⟨T', h', cA, X', eT', E, A, st⟩ := newP X K.1 K.2.1 w eT (g := mkF m pc L (.int z :: S)) rfl (hb K.2.2.2.1 hd) rfl hz hcap hb8 hc' hs'
  obtain ⟨s₂, o, a1, a2⟩ := r h' _ cA rfl E ((Arv.new A hz).pad fun i => by simpa using pad_rep [] (defaultValue (newarray.typeOf aty)) z.toNatClampNeg i) T' _ X' eT' N
  exact ⟨s₂, o, st _ a1, a2⟩
theorem Go.castore (K : Cx Z own bytes maxL ret mn p s m meth c) (hq : pc + 1 = q) {a : Addr} {k : ClassId} {z j x : Int32} {vs : List Value} {dv : Value} (A : Arv Z h a k .char z vs dv) {i : Nat} (hd : decode bytes pc = .ok (.castore, 1)) (hj : ¬ j < 0 ∧ j < z) (hi : j.toNatClampNeg = i) (hl : i < vs.length) (ha : n0 ≤ a)
    (r : ∀ h', Wr h h' a i (.int (nar .char x)) → Arv Z h' a k .char z (vs.set i (.int (nar .char x))) dv → Go p l e R s m args below meth c n0 kc ks Q h' cells slots (mkF m q L S)) : Go p l e R s m args below meth c n0 kc ks Q h cells slots (mkF m pc L (.int x :: .int j :: .ref a :: S)) := fun T locs X eT N => by
  subst hq
  obtain ⟨cl, A1, A2, A3, A4, A5, A6⟩ := A
  obtain ⟨T', h', X', eT', W, st⟩ := stC X K.1 K.2.1 eT A1 (j := j) (x := x) (inb_of A3 hj) (g := mkF m pc L (.int x :: .int j :: .ref a :: S)) rfl rfl (hb K.2.2.2.1 hd)
  obtain ⟨s₂, o, a1, a2⟩ := r h' (hi ▸ W) (Arv.set A1 A2 A3 A4 A5 A6 (fits_nar_char _) W i hi hl) T' _ X' eT' (Fr.snoc X' N ha)
  exact ⟨s₂, o, st _ a1, a2⟩
theorem Go.bastore (K : Cx Z own bytes maxL ret mn p s m meth c) (hq : pc + 1 = q) {a : Addr} {k : ClassId} {z j x : Int32} {vs : List Value} {dv : Value} (A : Arv Z h a k .byte z vs dv) {i : Nat} (hd : decode bytes pc = .ok (.bastore, 1)) (hj : ¬ j < 0 ∧ j < z) (hi : j.toNatClampNeg = i) (hl : i < vs.length) (ha : n0 ≤ a)
    (r : ∀ h', Wr h h' a i (.int (nar .byte x)) → Arv Z h' a k .byte z (vs.set i (.int (nar .byte x))) dv → Go p l e R s m args below meth c n0 kc ks Q h' cells slots (mkF m q L S)) : Go p l e R s m args below meth c n0 kc ks Q h cells slots (mkF m pc L (.int x :: .int j :: .ref a :: S)) := fun T locs X eT N => by
  subst hq
  obtain ⟨cl, A1, A2, A3, A4, A5, A6⟩ := A
  obtain ⟨T', h', X', eT', W, st⟩ := stB X K.1 K.2.1 eT A1 (j := j) (x := x) (inb_of A3 hj) (g := mkF m pc L (.int x :: .int j :: .ref a :: S)) rfl rfl (hb K.2.2.2.1 hd)
  obtain ⟨s₂, o, a1, a2⟩ := r h' (hi ▸ W) (Arv.set A1 A2 A3 A4 A5 A6 (fits_nar_byte _) W i hi hl) T' _ X' eT' (Fr.snoc X' N ha)
  exact ⟨s₂, o, st _ a1, a2⟩
theorem Go.caload (K : Cx Z own bytes maxL ret mn p s m meth c) (hq : pc + 1 = q) {a : Addr} {k : ClassId} {z j : Int32} {vs : List Value} {dv v : Value} (A : Arv Z h a k .char z vs dv) (hd : decode bytes pc = .ok (.caload, 1)) (hj : ¬ j < 0 ∧ j < z) (hv : vs.getD j.toNatClampNeg dv = v) (r : Go p l e R s m args below meth c n0 kc ks Q h cells slots (mkF m q L (v :: S))) : Go p l e R s m args below meth c n0 kc ks Q h cells slots (mkF m pc L (.int j :: .ref a :: S)) :=
  Go.of_step (fun T locs X eT t kk => by
    subst hq
    obtain ⟨cl, A1, A2, A3, A4, A5, A6⟩ := A
    exact X.caload K.1 (by rw [eT]; exact A1.1) (State.isArrayOf_alike K.2.1.alike A1.2.1) A1.2.2 (inb_of A3 hj) (A5.at (inb_of A3 hj) hv) (g := mkF m pc L (.int j :: .ref a :: S)) rfl rfl (hb K.2.2.2.1 hd) _ kk) r
theorem Go.baload (K : Cx Z own bytes maxL ret mn p s m meth c) (hq : pc + 1 = q) {a : Addr} {k : ClassId} {z j : Int32} {vs : List Value} {dv v : Value} (A : Arv Z h a k .byte z vs dv) (hd : decode bytes pc = .ok (.baload, 1)) (hj : ¬ j < 0 ∧ j < z) (hv : vs.getD j.toNatClampNeg dv = v) (r : Go p l e R s m args below meth c n0 kc ks Q h cells slots (mkF m q L (v :: S))) : Go p l e R s m args below meth c n0 kc ks Q h cells slots (mkF m pc L (.int j :: .ref a :: S)) :=
  Go.of_step (fun T locs X eT t kk => by
    subst hq
    obtain ⟨cl, A1, A2, A3, A4, A5, A6⟩ := A
    exact X.baloadBytes K.1 (by rw [eT]; exact A1.1) (State.isArrayOf_alike K.2.1.alike A1.2.1) A1.2.2 (inb_of A3 hj) (A5.at (inb_of A3 hj) hv) (g := mkF m pc L (.int j :: .ref a :: S)) rfl rfl (hb K.2.2.2.1 hd) _ kk) r
theorem Go.aaload (K : Cx Z own bytes maxL ret mn p s m meth c) (hq : pc + 1 = q) {a : Addr} {k : ClassId} {ty : FieldType} {z j : Int32} {vs : List Value} {dv v : Value} (A : Arv Z h a k ty z vs dv) (hty : ty.isReference = true) (hd : decode bytes pc = .ok (.aaload, 1)) (hj : ¬ j < 0 ∧ j < z) (hv : vs.getD j.toNatClampNeg dv = v) (r : Go p l e R s m args below meth c n0 kc ks Q h cells slots (mkF m q L (v :: S))) : Go p l e R s m args below meth c n0 kc ks Q h cells slots (mkF m pc L (.int j :: .ref a :: S)) :=
  Go.of_step (fun T locs X eT t kk => by
    subst hq
    obtain ⟨cl, A1, A2, A3, A4, A5, A6⟩ := A
    exact X.aaload K.1 (by rw [eT]; exact A1.1) (State.isArrayOf_alike K.2.1.alike A1.2.1) hty A1.2.2 (inb_of A3 hj) (A5.at (inb_of A3 hj) hv) (g := mkF m pc L (.int j :: .ref a :: S)) rfl rfl (hb K.2.2.2.1 hd) _ kk) r
theorem Go.alen (K : Cx Z own bytes maxL ret mn p s m meth c) (hq : pc + 1 = q) {a : Addr} {k : ClassId} {ty : FieldType} {z : Int32} {vs : List Value} {dv : Value} (A : Arv Z h a k ty z vs dv) (hd : decode bytes pc = .ok (.arraylength, 1)) (r : Go p l e R s m args below meth c n0 kc ks Q h cells slots (mkF m q L (.int z :: S))) : Go p l e R s m args below meth c n0 kc ks Q h cells slots (mkF m pc L (.ref a :: S)) :=
  Go.of_step (fun T locs X eT t kk => by
    subst hq
    obtain ⟨cl, A1, A2, A3, A4, A5, A6⟩ := A
    refine X.arraylength K.1 (by rw [eT]; exact A1.1) (State.isArrayOf_alike K.2.1.alike A1.2.1) (g := mkF m pc L (.ref a :: S)) rfl rfl (hb K.2.2.2.1 hd) _ ?_
    rw [len_of A3 A4]; exact kk) r
/-! calls -/
abbrev PreB (R : Room) (as' : Array Value) (h : Heap) (dc ds : Nat) : Pt → Array Value → Prop := fun A a => a = as' ∧ A.U.heap = h ∧ A.cells + dc ≤ R.cells ∧ A.slots + ds ≤ R.slots
abbrev PostB (QQ : Option Value → Heap → List Loc → Prop) (dc ds : Nat) : Pt → Array Value → Option Value → Pt → Prop := fun A _ v B => ∃ L, QQ v B.U.heap L ∧ B.locs = A.locs ++ L ∧ B.cells = A.cells + dc ∧ B.slots = A.slots + ds
theorem Go.initO (K : Cx Z own bytes maxL ret mn p s m meth c) (hq : pc + 3 = q) {i : Nat} (w1 : (Cond.methodLink own i Lib.objectInit).before a0 Z = true) (w2 : (Cond.instanceMethod Lib.objectInit).before a0 Z = true) (w3 : (Cond.code Lib.objectInit ⟨#[0xb1]⟩ 1 none).before a0 Z = true) {a : Addr} (hsz : L.size = maxL) (hd : decode bytes pc = .ok (.invokespecial i, 3)) (hf : 1 ≤ R.frames) {W : Nat} (hW : (S.map fun v => v.category).sum ≤ W) (hl : W + 12 ≤ R.locals)
    (r : Go p l e R s m args below meth c n0 kc ks Q h cells slots (mkF m q L S)) : Go p l e R s m args below meth c n0 kc ks Q h cells slots (mkF m pc L (.ref a :: S)) :=
  Go.of_warm (fun T locs X eT => by subst hq; exact Jvm.RoadKit.initO X K.1 K.2.1 K.2.2.1 w1 w2 w3 eT (g := mkF m pc L (.ref a :: S)) rfl (hsz.trans K.2.2.2.2.1.symm) rfl (hb K.2.2.2.1 hd) hf (W := W) (by show 2 * 0 + _ ≤ _; omega) hl) r
theorem Go.bS (K : Cx Z own bytes maxL ret mn p s m meth c) (hq : pc + 3 = q) {i : Nat} {y : MethodName} {bytes' : ByteArray} {maxL' : Nat} {ret' : Option FieldType} (w1 : (Cond.methodLink own i y).before a0 Z = true) (w2 : (Cond.static y).before a0 Z = true) (w3 : (Cond.initialized y.cls).before a0 Z = true) (w4 : (Cond.code y bytes' maxL' ret').before a0 Z = true) (hy : y.cls ≠ "java/lang/invoke/MethodHandle" ∧ y.cls ≠ "java/lang/invoke/VarHandle")
    {W dc ds cells' slots' : Nat} {as' : Array Value} {QQ : Option Value → Heap → List Loc → Prop} (B : Back l R p e below s args y 3 W (PreB R as' h dc ds) (PostB QQ dc ds)) {sig : MethodDescriptor} (hsig : parseMethodDescriptor y.desc = some sig) {argsL rest : List Value} (has : as' = argsL.toArray) (hlen : argsL.length = sig.parameters.length) (hS : S = argsL.reverse ++ rest) (hsz : L.size = maxL) (hW : (rest.map fun v => v.category).sum ≤ W)
    (hd : decode bytes pc = .ok (.invokestatic i, 3)) (hc : cells + dc = cells') (hs : slots + ds = slots') (hc' : cells' ≤ R.cells) (hs' : slots' ≤ R.slots) (r : ∀ v h' L', QQ v h' L' → Fr n0 L' ∧ Go p l e R s m args below meth c n0 kc ks Q h' cells' slots' (mkF m q L (v.toList ++ rest))) : Go p l e R s m args below meth c n0 kc ks Q h cells slots (mkF m pc L S) := fun T locs X eT N => by
  subst hq hc hs
  obtain ⟨v, vm₁, ⟨T', L', k', n'⟩, -, X', ⟨Lc, hQ, l1, l2, l3⟩, st⟩ := Jvm.LawKit.callS X K.1 (y := y) K.2.2.1 (mvT K.2.1 w1) (mvT K.2.1 w2) (mvT K.2.1 w3) (mvT K.2.1 w4) hy B (g := mkF m pc L S) rfl (hsz.trans K.2.2.2.2.1.symm) (argsL := argsL) (rest := rest) (fun sg hg => by rw [hsig] at hg; cases hg; exact hlen) hS (by show 2 * 0 + _ ≤ _; omega) (hb K.2.2.2.1 hd) (fun _ _ => ⟨has.symm, eT, hc', hs'⟩)
  dsimp only [Pt.U, Pt.locs, Pt.cells, Pt.slots] at X' l1 l2 l3 st hQ
  subst l1 l2 l3
  obtain ⟨N', G⟩ := r v T'.heap Lc hQ
  obtain ⟨s₂, o, a1, a2⟩ := G T' _ X' rfl (Fr.app N N')
  exact ⟨s₂, o, st _ a1, a2⟩
theorem Go.bI (K : Cx Z own bytes maxL ret mn p s m meth c) (hq : pc + 3 = q) {i : Nat} {y : MethodName} {bytes' : ByteArray} {maxL' : Nat} (hyi : y.name = "<init>") (w1 : (Cond.methodLink own i y).before a0 Z = true) (w2 : (Cond.instanceMethod y).before a0 Z = true) (w4 : (Cond.code y bytes' maxL' none).before a0 Z = true) (hy : y.cls ≠ "java/lang/invoke/MethodHandle" ∧ y.cls ≠ "java/lang/invoke/VarHandle")
    {W dc ds cells' slots' : Nat} {as' : Array Value} {QQ : Option Value → Heap → List Loc → Prop} (B : Back l R p e below s args y 3 W (PreB R as' h dc ds) (PostB QQ dc ds)) {sig : MethodDescriptor} (hsig : parseMethodDescriptor y.desc = some sig) {a : Addr} {argsL rest : List Value} (has : as' = (.ref a :: argsL).toArray) (hlen : argsL.length = sig.parameters.length) (hS : S = argsL.reverse ++ .ref a :: rest) (hsz : L.size = maxL) (hW : (rest.map fun v => v.category).sum ≤ W)
    (hd : decode bytes pc = .ok (.invokespecial i, 3)) (hc : cells + dc = cells') (hs : slots + ds = slots') (hc' : cells' ≤ R.cells) (hs' : slots' ≤ R.slots) (r : ∀ v h' L', QQ v h' L' → Fr n0 L' ∧ Go p l e R s m args below meth c n0 kc ks Q h' cells' slots' (mkF m q L (v.toList ++ rest))) : Go p l e R s m args below meth c n0 kc ks Q h cells slots (mkF m pc L S) := fun T locs X eT N => by
  subst hq hc hs
  obtain ⟨v, vm₁, ⟨T', L', k', n'⟩, -, X', ⟨Lc, hQ, l1, l2, l3⟩, st⟩ := X.specialBack K.1 (y := y) hyi K.2.2.1 (mvT K.2.1 w1) (mvT K.2.1 w2) (mvT K.2.1 w4) hy B (g := mkF m pc L S) rfl (hsz.trans K.2.2.2.2.1.symm) (Steps.refl _) (a := a) (argsL := argsL) (rest := rest) (fun sg hg => by rw [hsig] at hg; cases hg; exact hlen) hS (by show 2 * 0 + _ ≤ _; omega) (hb K.2.2.2.1 hd) (fun _ _ => ⟨has.symm, eT, hc', hs'⟩)
  dsimp only [Pt.U, Pt.locs, Pt.cells, Pt.slots] at X' l1 l2 l3 st hQ
  subst l1 l2 l3
  obtain ⟨N', G⟩ := r v T'.heap Lc hQ
  obtain ⟨s₂, o, a1, a2⟩ := G T' _ X' rfl (Fr.app N N')
  exact ⟨s₂, o, st.trans a1, a2⟩
theorem Go.bV (K : Cx Z own bytes maxL ret mn p s m meth c) (hq : pc + 3 = q) {i : Nat} {C : String} {y z : MethodName} (w1 : (Cond.methodLink own i y).before a0 Z = true) (w2 : (Cond.declares y).before a0 Z = true) (nf : NotFace s y) (w3 : (Cond.selects C y z).before a0 Z = true) (w4 : (Cond.instanceMethod z).before a0 Z = true) (hy : y.cls ≠ "java/lang/invoke/MethodHandle" ∧ y.cls ≠ "java/lang/invoke/VarHandle")
    {W dc ds cells' slots' : Nat} {as' : Array Value} {QQ : Option Value → Heap → List Loc → Prop} (B : Back l R p e below s args z 3 W (PreB R as' h dc ds) (PostB QQ dc ds)) {a : Addr} (E : Exa Z h a C) {sig : MethodDescriptor} (hsig : parseMethodDescriptor y.desc = some sig) {argsL rest : List Value} (has : as' = (.ref a :: argsL).toArray) (hlen : argsL.length = sig.parameters.length) (hS : S = argsL.reverse ++ .ref a :: rest) (hsz : L.size = maxL) (hW : (rest.map fun v => v.category).sum ≤ W)
    (hd : decode bytes pc = .ok (.invokevirtual i, 3)) (hc : cells + dc = cells') (hs : slots + ds = slots') (hc' : cells' ≤ R.cells) (hs' : slots' ≤ R.slots) (r : ∀ v h' L', QQ v h' L' → Fr n0 L' ∧ Go p l e R s m args below meth c n0 kc ks Q h' cells' slots' (mkF m q L (v.toList ++ rest))) : Go p l e R s m args below meth c n0 kc ks Q h cells slots (mkF m pc L S) := fun T locs X eT N => by
  subst hq hc hs
  obtain ⟨cq, kq, qa, qb, qc⟩ := isOf K.2.1 eT E
  obtain ⟨v, vm₁, ⟨T', L', k', n'⟩, -, X', ⟨Lc, hQ, l1, l2, l3⟩, st⟩ := X.virtualBack K.1 (y := y) (z := z) K.2.2.1 (mvT K.2.1 w1) (mvT K.2.1 w2) nf (mvT K.2.1 w3) (mvT K.2.1 w4) hy B qa qc (g := mkF m pc L S) rfl (hsz.trans K.2.2.2.2.1.symm) (Steps.refl _) (argsL := argsL) (rest := rest) (fun sg hg => by rw [hsig] at hg; cases hg; exact hlen) hS (by show 2 * 0 + _ ≤ _; omega) (hb K.2.2.2.1 hd) (fun _ _ => ⟨has.symm, eT, hc', hs'⟩)
  dsimp only [Pt.U, Pt.locs, Pt.cells, Pt.slots] at X' l1 l2 l3 st hQ
  subst l1 l2 l3
  obtain ⟨N', G⟩ := r v T'.heap Lc hQ
  obtain ⟨s₂, o, a1, a2⟩ := G T' _ X' rfl (Fr.app N N')
  exact ⟨s₂, o, st.trans a1, a2⟩
/-- that the resolved method's class is no interface, where the receiver's class selects the resolved method itself -/
theorem nfS (K : Cx Z own bytes maxL ret mn p s m meth c) {C : String} {y : MethodName} (w3 : (Cond.selects C y y).before a0 Z = true) : NotFace s y := notFace_of_selects (args := #[]) (mvT K.2.1 w3)
/-- a callee's contract as what pays a call -/
theorem Ctr.back (K : Cx Z own bytes maxL ret mn p s m meth c) {y : MethodName} {bytes' : ByteArray} {maxL' : Nat} {ret' : Option FieldType} {rm : Room} {as' : Array Value} {Q' : Option Value → Heap → Prop} {W : Nat} (C : Ctr l Z n0 y bytes' maxL' ret' [] rm as' h Q') (w4 : (Cond.code y bytes' maxL' ret').before a0 Z = true) (w3 : (Cond.initialized y.cls).before a0 Z = true) (hf : rm.frames + 1 ≤ R.frames) (hl : W + (maxL' + 11) + rm.locals ≤ R.locals) :
    Back l R p e below s args y 3 W (PreB R as' h rm.cells rm.slots) (PostB (fun v h' L => Q' v h' ∧ Fr n0 L) rm.cells rm.slots) :=
  backOf (W := W) (Z := Z) (h := h) (rm := rm) (as' := as') (Q := fun v h' L => Q' v h' ∧ Fr n0 L) C K.2.1 w4 w3 hf hl
/-- a static call by the callee's contract -/
theorem Go.cS (K : Cx Z own bytes maxL ret mn p s m meth c) (hq : pc + 3 = q) {i : Nat} {y : MethodName} {bytes' : ByteArray} {maxL' : Nat} {ret' : Option FieldType} {rm : Room} {as' : Array Value} {Q' : Option Value → Heap → Prop} (C : Ctr l Z n0 y bytes' maxL' ret' [] rm as' h Q') (w1 : (Cond.methodLink own i y).before a0 Z = true) (w2 : (Cond.static y).before a0 Z = true) (w3 : (Cond.initialized y.cls).before a0 Z = true) (w4 : (Cond.code y bytes' maxL' ret').before a0 Z = true) (hy : y.cls ≠ "java/lang/invoke/MethodHandle" ∧ y.cls ≠ "java/lang/invoke/VarHandle")
    {sig : MethodDescriptor} (hsig : parseMethodDescriptor y.desc = some sig) {argsL rest : List Value} (has : as' = argsL.toArray) (hlen : argsL.length = sig.parameters.length) (hS : S = argsL.reverse ++ rest) (hsz : L.size = maxL) {W cells' slots' : Nat} (hW : (rest.map fun v => v.category).sum ≤ W) (hf : rm.frames + 1 ≤ R.frames) (hl : W + (maxL' + 11) + rm.locals ≤ R.locals)
    (hd : decode bytes pc = .ok (.invokestatic i, 3)) (hc : cells + rm.cells = cells') (hs : slots + rm.slots = slots') (hc' : cells' ≤ R.cells) (hs' : slots' ≤ R.slots) (r : ∀ v h', Q' v h' → Go p l e R s m args below meth c n0 kc ks Q h' cells' slots' (mkF m q L (v.toList ++ rest))) : Go p l e R s m args below meth c n0 kc ks Q h cells slots (mkF m pc L S) :=
  Go.bS K hq w1 w2 w3 w4 hy (C.back K w4 w3 hf hl) hsig has hlen hS hsz hW hd hc hs hc' hs' fun v h' L' hQ => ⟨hQ.2, r v h' hQ.1⟩
/-- a constructor by its contract -/
theorem Go.cI (K : Cx Z own bytes maxL ret mn p s m meth c) (hq : pc + 3 = q) {i : Nat} {y : MethodName} {bytes' : ByteArray} {maxL' : Nat} {rm : Room} {as' : Array Value} {Q' : Option Value → Heap → Prop} (C : Ctr l Z n0 y bytes' maxL' none [] rm as' h Q') (hyi : y.name = "<init>") (w1 : (Cond.methodLink own i y).before a0 Z = true) (w2 : (Cond.instanceMethod y).before a0 Z = true) (w3 : (Cond.initialized y.cls).before a0 Z = true) (w4 : (Cond.code y bytes' maxL' none).before a0 Z = true) (hy : y.cls ≠ "java/lang/invoke/MethodHandle" ∧ y.cls ≠ "java/lang/invoke/VarHandle")
    {sig : MethodDescriptor} (hsig : parseMethodDescriptor y.desc = some sig) {a : Addr} {argsL rest : List Value} (has : as' = (.ref a :: argsL).toArray) (hlen : argsL.length = sig.parameters.length) (hS : S = argsL.reverse ++ .ref a :: rest) (hsz : L.size = maxL) {W cells' slots' : Nat} (hW : (rest.map fun v => v.category).sum ≤ W) (hf : rm.frames + 1 ≤ R.frames) (hl : W + (maxL' + 11) + rm.locals ≤ R.locals)
    (hd : decode bytes pc = .ok (.invokespecial i, 3)) (hc : cells + rm.cells = cells') (hs : slots + rm.slots = slots') (hc' : cells' ≤ R.cells) (hs' : slots' ≤ R.slots) (r : ∀ v h', Q' v h' → Go p l e R s m args below meth c n0 kc ks Q h' cells' slots' (mkF m q L (v.toList ++ rest))) : Go p l e R s m args below meth c n0 kc ks Q h cells slots (mkF m pc L S) :=
  Go.bI K hq hyi w1 w2 w4 hy (C.back K w4 w3 hf hl) hsig has hlen hS hsz hW hd hc hs hc' hs' fun v h' L' hQ => ⟨hQ.2, r v h' hQ.1⟩
/-- an instance method by its contract -/
theorem Go.cV (K : Cx Z own bytes maxL ret mn p s m meth c) (hq : pc + 3 = q) {i : Nat} {C0 : String} {y z : MethodName} {bytes' : ByteArray} {maxL' : Nat} {ret' : Option FieldType} {rm : Room} {as' : Array Value} {Q' : Option Value → Heap → Prop} (C : Ctr l Z n0 z bytes' maxL' ret' [] rm as' h Q') (w1 : (Cond.methodLink own i y).before a0 Z = true) (w2 : (Cond.declares y).before a0 Z = true) (nf : NotFace s y) (w3 : (Cond.selects C0 y z).before a0 Z = true) (w4 : (Cond.instanceMethod z).before a0 Z = true) (w5 : (Cond.initialized z.cls).before a0 Z = true) (w6 : (Cond.code z bytes' maxL' ret').before a0 Z = true) (hy : y.cls ≠ "java/lang/invoke/MethodHandle" ∧ y.cls ≠ "java/lang/invoke/VarHandle")
    {a : Addr} (E : Exa Z h a C0) {sig : MethodDescriptor} (hsig : parseMethodDescriptor y.desc = some sig) {argsL rest : List Value} (has : as' = (.ref a :: argsL).toArray) (hlen : argsL.length = sig.parameters.length) (hS : S = argsL.reverse ++ .ref a :: rest) (hsz : L.size = maxL) {W cells' slots' : Nat} (hW : (rest.map fun v => v.category).sum ≤ W) (hf : rm.frames + 1 ≤ R.frames) (hl : W + (maxL' + 11) + rm.locals ≤ R.locals)
    (hd : decode bytes pc = .ok (.invokevirtual i, 3)) (hc : cells + rm.cells = cells') (hs : slots + rm.slots = slots') (hc' : cells' ≤ R.cells) (hs' : slots' ≤ R.slots) (r : ∀ v h', Q' v h' → Go p l e R s m args below meth c n0 kc ks Q h' cells' slots' (mkF m q L (v.toList ++ rest))) : Go p l e R s m args below meth c n0 kc ks Q h cells slots (mkF m pc L S) :=
  Go.bV K hq w1 w2 nf w3 w4 hy (C.back K w6 w5 hf hl) E hsig has hlen hS hsz hW hd hc hs hc' hs' fun v h' L' hQ => ⟨hQ.2, r v h' hQ.1⟩
end Rules
/-! what is carried -/
theorem Ext.refl (h : Heap) : Ext h h := ⟨Nat.le_refl _, fun _ _ q => q⟩
theorem Ext.trans {h0 h h' : Heap} (E : Ext h0 h) (E' : Ext h h') : Ext h0 h' := ⟨Nat.le_trans E.1 E'.1, fun a c q => E'.2 a c (E.2 a c q)⟩
theorem Ext.keep {h0 h h' : Heap} {ws : List Addr} (E : Ext h0 h) (K : Keep h h' ws) (q : ∀ x ∈ ws, h0.size ≤ x) : Ext h0 h' :=
  ⟨Nat.le_trans E.1 K.1, fun a c r => K.2.1 a c (E.2 a c r) fun z => absurd (Array.getElem?_eq_some_iff.mp r).1 (Nat.not_lt.mpr (q a z))⟩
theorem Ext.wr {h0 h h' : Heap} {a : Addr} {sl : Nat} {v : Value} (E : Ext h0 h) (W : Wr h h' a sl v) (q : h0.size ≤ a) : Ext h0 h' := Ext.keep E (Keep.of_wr W) (allS q all0)
theorem Ext.of_keep {h h' : Heap} (K : Keep h h' []) : Ext h h' := ⟨K.1, fun a c q => K.2.1 a c q nin0⟩
theorem Ext.sta {Z : State} {h h' : Heap} {C n d : String} {v : Value} (E : Ext h h') (F : Sta Z h C n d v) : Sta Z h' C n d v := F.ext E
end Jvm.Pilot.@@N@@.W
/- laws to paste: Road.backV, Road.codOf (cut by pick.py; bodies as the Statement names them) -/
namespace Jvm.Pilot.@@N@@
namespace StrChars
open Jvm Sem ClassFile Op Lib Jvm.Stand Jvm.Free.XT Jvm.Free.ALB Jvm.Free.JM Jvm.Free
open Jvm.Lib.Cold (StaticIs)
/-- a char array whose places are chars -/
def Ch (a : Addr) (A : Cell) (U : State) : Prop := Arr .char a A U ∧ Typed .char A
theorem Ch.mv {a : Addr} {A : Cell} {U U' : State} (h : Ch a A U) (hal : U.vm.Alike U'.vm) (hh : U'.heap = U.heap) : Ch a A U' := ⟨h.1.mv hal hh, h.2⟩
theorem Ch.keep {a : Addr} {A : Cell} {U U' : State} (h : Ch a A U) (hal : U.vm.Alike U'.vm) (hk : U'.heap[a]? = some A) : Ch a A U' := ⟨h.1.keep hal hk, h.2⟩
/-- what place i of a char[]'s cell holds -/
def cv (A : Cell) (i : Nat) : Int32 := match A.slots[i]? with | some (.int x) => x | _ => 0
theorem Ch.get {a : Addr} {A : Cell} {U : State} (h : Ch a A U) {i : Nat} (hi : i < A.slots.size) : A.slots[i]? = some (.int (cv A i)) := by
  have e := Array.getElem?_eq_getElem hi
  have f := h.2 i _ e
  unfold cv; rw [e]
  generalize A.slots[i] = v at f
  cases v <;> simp [fits] at f ⊢
/-- the byte that i2b leaves of a char -/
def lo8 (x : Int32) : Int32 := x.toInt8.toInt32
theorem fits_lo8 (y : Int32) : fits .byte (.int (lo8 y)) = true := by
  have h1 := y.toInt8.le_toInt
  have h2 := y.toInt8.toInt_lt
  simp only [lo8, fits, Bool.and_eq_true, decide_eq_true_eq, Int32.le_iff_toInt_le, Int8.toInt_toInt32, show (-128 : Int32).toInt = -128 from by decide, show (127 : Int32).toInt = 127 from by decide]
  omega
/-- A' is A but that each place j of lo .. hi - 1 holds f j -/
def Laid (A A' : Cell) (lo hi : Nat) (f : Nat → Value) : Prop := A'.cls = A.cls ∧ A'.vm = A.vm ∧ A'.slots.size = A.slots.size ∧ ∀ i, A'.slots[i]? = if lo ≤ i ∧ i < hi then some (f i) else A.slots[i]?
theorem Laid.zero (A : Cell) (lo : Nat) (f : Nat → Value) : Laid A A lo (lo + 0) f := ⟨rfl, rfl, rfl, fun i => by rw [if_neg (by omega)]⟩
theorem Laid.step {A Ak : Cell} {lo k : Nat} {f : Nat → Value} {v : Value} (h : Laid A Ak lo k f) (hlo : lo ≤ k) (hk : k < Ak.slots.size) (hv : v = f k) : Laid A (Ak.setSlot k v) lo (k + 1) f := by
  refine ⟨h.1, h.2.1, by simpa [Cell.setSlot] using h.2.2.1, fun i => ?_⟩
  by_cases e : k = i
  · subst e; rw [Cell.slots_setSlot_self v hk, if_pos (by omega), hv]
  · rw [Cell.slots_setSlot_ne v e, h.2.2.2 i]
    by_cases q : lo ≤ i ∧ i < k
    · rw [if_pos q, if_pos (by omega)]
    · rw [if_neg q, if_neg (by omega)]
def U16 : String := "java/lang/StringUTF16"
namespace Cmp5
def yN : MethodName := ⟨"java/lang/StringUTF16", "compress", "([CI[BII)I"⟩
abbrev yB : ByteArray := jdk_52_method_21_code
theorem d0 : decode yB 0 = .ok (.iconst 0, 1) := by decide +kernel
theorem d1 : decode yB 1 = .ok (.istore 5, 2) := by decide +kernel
theorem d3 : decode yB 3 = .ok (.iload 5, 2) := by decide +kernel
theorem d5 : decode yB 5 = .ok (.iload 4, 2) := by decide +kernel
theorem d7 : decode yB 7 = .ok (.if_icmp (.ge) 37, 3) := by decide +kernel
theorem d10 : decode yB 10 = .ok (.aload_n 0, 1) := by decide +kernel
theorem d11 : decode yB 11 = .ok (.iload_n 1, 1) := by decide +kernel
theorem d12 : decode yB 12 = .ok (.caload, 1) := by decide +kernel
theorem d13 : decode yB 13 = .ok (.istore 6, 2) := by decide +kernel
theorem d15 : decode yB 15 = .ok (.iload 6, 2) := by decide +kernel
theorem d17 : decode yB 17 = .ok (.sipush 255, 3) := by decide +kernel
theorem d20 : decode yB 20 = .ok (.if_icmp (.le) 6, 3) := by decide +kernel
theorem d26 : decode yB 26 = .ok (.aload_n 2, 1) := by decide +kernel
theorem d27 : decode yB 27 = .ok (.iload_n 3, 1) := by decide +kernel
theorem d28 : decode yB 28 = .ok (.iload 6, 2) := by decide +kernel
theorem d30 : decode yB 30 = .ok (.i2b, 1) := by decide +kernel
theorem d31 : decode yB 31 = .ok (.bastore, 1) := by decide +kernel
theorem d32 : decode yB 32 = .ok (.iinc 1 1, 3) := by decide +kernel
theorem d35 : decode yB 35 = .ok (.iinc 3 1, 3) := by decide +kernel
theorem d38 : decode yB 38 = .ok (.iinc 5 1, 3) := by decide +kernel
theorem d41 : decode yB 41 = .ok (.goto (-38), 3) := by decide +kernel
theorem d44 : decode yB 44 = .ok (.iload 4, 2) := by decide +kernel
theorem d46 : decode yB 46 = .ok (.ireturn, 1) := by decide +kernel
def site : List Cond := []
def tab : Cond := tabOf yN yB 7 (some .int) site
def P (b : Addr) (A : Cell) (d : Addr) (B : Cell) (o q len : Nat) (args : Array Value) (s : State) : Prop := args = #[.ref b, .int (Int32.ofNat o), .ref d, .int (Int32.ofNat q), .int (Int32.ofNat len)] ∧ Ch b A s ∧ Arr .byte d B s ∧ b ≠ d ∧ o + len ≤ A.slots.size ∧ q + len ≤ B.slots.size ∧ ∀ i, i < len → ¬ 255 < cv A (o + i)
def E (b : Addr) (A : Cell) (d : Addr) (B : Cell) (o q len : Nat) (r : Option Value) (s u : State) : Prop := r = some (.int (Int32.ofNat len)) ∧ ∃ B', Put d B' s u ∧ Laid B B' q (q + len) (fun j => Value.int (lo8 (cv A (o + (j - q)))))
/-- no char of the range above 255: len; the places written hold each char's low byte -/
theorem law (l : Launch) (b : Addr) (A : Cell) (d : Addr) (B : Cell) (o q len : Nat) : Law l yN 5 5 0 0 yB 7 (some .int) site (P b A d B o q len) (E b A d B o q len) (copyLocs d q len) 0 0 := by
  refine Law.of_walk (plainFor_of_name (by decide +kernel)) (by decide +kernel) (by decide +kernel) (by decide) (fun _ _ h => by rw [h.1]; rfl) (fun _ U U' hal hh h => ⟨h.1, h.2.1.mv hal hh, h.2.2.1.mv hal hh, h.2.2.2⟩) (fun r U U' V V' h1 hal h2 h => ⟨h.1, h.2.elim fun B' q => ⟨B', q.1.mv h1 h2, q.2⟩⟩) ?_
  intro p e s m args below meth c s₁ X0 hexec hbytes hml hret hlk hnm hown hh0 W hP
  obtain ⟨rfl, hA, hB, hne, l1, l2, hp⟩ := hP
  have c1 : Steps p.tables e below (s₁.setTop (entryFrame m #[.ref b, .int (Int32.ofNat o), .ref d, .int (Int32.ofNat q), .int (Int32.ofNat len)] 7)) (s₁.setTop (mkF m 0 #[.val (.ref b), .val (.int (Int32.ofNat o)), .val (.ref d), .val (.int (Int32.ofNat q)), .val (.int (Int32.ofNat len)), .unset, .unset] [])) := entry rfl
  have hA0 := hA.1.mv X0.warmed.alike hh0
  have hB0 := hB.mv X0.warmed.alike hh0
  have a31 := hA.1.2.2.2
  have c2 : Steps p.tables e below (s₁.setTop (entryFrame m #[.ref b, .int (Int32.ofNat o), .ref d, .int (Int32.ofNat q), .int (Int32.ofNat len)] 7)) (s₁.setTop (mkF m 3 #[.val (.ref b), .val (.int (Int32.ofNat o)), .val (.ref d), .val (.int (Int32.ofNat q)), .val (.int (Int32.ofNat len)), .val (.int 0), .unset] [])) := c1.trans (by
    refine iconstV X0.here hexec rfl 0 (hb hbytes d0) (by decide) ?_
    refine XS.istore X0.here hexec rfl (hb hbytes d1) rfl rfl ?_
    exact Steps.refl _)
  have loop : ∀ (r i : Nat), i + r = len → ∀ (z : Slot), (z = .unset ∨ ∃ w, z = .val w ∧ w.category = 1) → ∀ (Tl : State) (Bk : Cell), Stand p l e { frames := 0, locals := 0, cells := 0, slots := 0 } s m #[.ref b, .int (Int32.ofNat o), .ref d, .int (Int32.ofNat q), .int (Int32.ofNat len)] below meth c Tl ([] ++ copyLocs d q i) 0 0 → Put d Bk s₁ Tl → Laid B Bk q (q + i) (fun j => Value.int (lo8 (cv A (o + (j - q))))) →
      Steps p.tables e below (s₁.setTop (entryFrame m #[.ref b, .int (Int32.ofNat o), .ref d, .int (Int32.ofNat q), .int (Int32.ofNat len)] 7)) (Tl.setTop (mkF m 3 #[.val (.ref b), .val (.int (Int32.ofNat (o + i))), .val (.ref d), .val (.int (Int32.ofNat (q + i))), .val (.int (Int32.ofNat len)), .val (.int (Int32.ofNat i)), z] [])) → ∃ (T' : State) (B' : Cell) (z' : Slot), Stand p l e { frames := 0, locals := 0, cells := 0, slots := 0 } s m #[.ref b, .int (Int32.ofNat o), .ref d, .int (Int32.ofNat q), .int (Int32.ofNat len)] below meth c T' ([] ++ copyLocs d q len) 0 0 ∧ Put d B' s₁ T' ∧ Laid B B' q (q + len) (fun j => Value.int (lo8 (cv A (o + (j - q))))) ∧
      Steps p.tables e below (s₁.setTop (entryFrame m #[.ref b, .int (Int32.ofNat o), .ref d, .int (Int32.ofNat q), .int (Int32.ofNat len)] 7)) (T'.setTop (mkF m 3 #[.val (.ref b), .val (.int (Int32.ofNat (o + len))), .val (.ref d), .val (.int (Int32.ofNat (q + len))), .val (.int (Int32.ofNat len)), .val (.int (Int32.ofNat len)), z'] [])) := by
    intro r
    induction r with
    | zero =>
      intro i hi z hz Tl Bk Xl pl fl cl
      have hil : i = len := by omega
      rw [hil] at Xl fl cl
      exact ⟨Tl, Bk, z, Xl, pl, fl, cl⟩
    | succ r ih =>
      intro i hi z hz Tl Bk Xl pl fl cl
      have all := X0.warmed.alike.symm.trans Xl.warmed.alike
      have hAl := hA0.keep all (pl.other hne hA0.1)
      have hBk := hB0.like all pl.1 fl.1 fl.2.1 fl.2.2.1
      have hlt : q + i < Bk.slots.size := by rw [fl.2.2.1]; omega
      have c3 : Steps p.tables e below (s₁.setTop (entryFrame m #[.ref b, .int (Int32.ofNat o), .ref d, .int (Int32.ofNat q), .int (Int32.ofNat len)] 7)) (Tl.setTop (mkF m 12 #[.val (.ref b), .val (.int (Int32.ofNat (o + i))), .val (.ref d), .val (.int (Int32.ofNat (q + i))), .val (.int (Int32.ofNat len)), .val (.int (Int32.ofNat i)), z] [.int (Int32.ofNat (o + i)), .ref b])) := cl.trans (by
        refine XS.iload Xl.here hexec rfl (hb hbytes d3) rfl ?_
        refine XS.iload Xl.here hexec rfl (hb hbytes d5) rfl ?_
        refine XS.icmpNo Xl.here hexec rfl (hb hbytes d7) rfl (ii_ge_f (lt32 (by omega) (by omega))) ?_
        refine XS.aloadN Xl.here hexec rfl (hb hbytes d10) rfl rfl ?_
        refine XS.iloadN Xl.here hexec rfl (hb hbytes d11) rfl ?_
        exact Steps.refl _)
      have c4 : Steps p.tables e below (s₁.setTop (entryFrame m #[.ref b, .int (Int32.ofNat o), .ref d, .int (Int32.ofNat q), .int (Int32.ofNat len)] 7)) (Tl.setTop (mkF m 13 #[.val (.ref b), .val (.int (Int32.ofNat (o + i))), .val (.ref d), .val (.int (Int32.ofNat (q + i))), .val (.int (Int32.ofNat len)), .val (.int (Int32.ofNat i)), z] [.int (cv A (o + i))])) := c3.trans (by
        refine Xl.aget hexec hAl rfl (hA.get (i := o + i) (by omega)) rfl rfl (hb hbytes d12) ?_
        exact Steps.refl _)
      have c5 : Steps p.tables e below (s₁.setTop (entryFrame m #[.ref b, .int (Int32.ofNat o), .ref d, .int (Int32.ofNat q), .int (Int32.ofNat len)] 7)) (Tl.setTop (mkF m 15 #[.val (.ref b), .val (.int (Int32.ofNat (o + i))), .val (.ref d), .val (.int (Int32.ofNat (q + i))), .val (.int (Int32.ofNat len)), .val (.int (Int32.ofNat i)), .val (.int (cv A (o + i)))] [])) := c4.trans (by
        refine XS.istoreS Xl.here hexec rfl (hb hbytes d13) rfl rfl hz ?_
        exact Steps.refl _)
      have c6 : Steps p.tables e below (s₁.setTop (entryFrame m #[.ref b, .int (Int32.ofNat o), .ref d, .int (Int32.ofNat q), .int (Int32.ofNat len)] 7)) (Tl.setTop (mkF m 31 #[.val (.ref b), .val (.int (Int32.ofNat (o + i))), .val (.ref d), .val (.int (Int32.ofNat (q + i))), .val (.int (Int32.ofNat len)), .val (.int (Int32.ofNat i)), .val (.int (cv A (o + i)))] [.int (lo8 (cv A (o + i))), .int (Int32.ofNat (q + i)), .ref d])) := c5.trans (by
        refine XS.iload Xl.here hexec rfl (hb hbytes d15) rfl ?_
        refine sipushV Xl.here hexec rfl 255 (hb hbytes d17) (by decide) ?_
        refine XS.icmpYes Xl.here hexec rfl (pc0 := 20) rfl (hb hbytes d20) rfl (ii_le_t (hp i (by omega))) (by decide) rfl ?_
        refine XS.aloadN Xl.here hexec rfl (hb hbytes d26) rfl rfl ?_
        refine XS.iloadN Xl.here hexec rfl (hb hbytes d27) rfl ?_
        refine XS.iload Xl.here hexec rfl (hb hbytes d28) rfl ?_
        refine i2b Xl.here hexec rfl (hb hbytes d30) rfl ?_
        exact Steps.refl _)
      obtain ⟨T7, X7, p7, st7⟩ := Xl.aput hexec hBk rfl hlt rfl (fits_lo8 (cv A (o + i))) (g := (mkF m 31 #[.val (.ref b), .val (.int (Int32.ofNat (o + i))), .val (.ref d), .val (.int (Int32.ofNat (q + i))), .val (.int (Int32.ofNat len)), .val (.int (Int32.ofNat i)), .val (.int (cv A (o + i)))] [.int (lo8 (cv A (o + i))), .int (Int32.ofNat (q + i)), .ref d])) rfl (rest := []) rfl (hb hbytes d31)
      have c8 : Steps p.tables e below (s₁.setTop (entryFrame m #[.ref b, .int (Int32.ofNat o), .ref d, .int (Int32.ofNat q), .int (Int32.ofNat len)] 7)) (T7.setTop (mkF m 32 #[.val (.ref b), .val (.int (Int32.ofNat (o + i))), .val (.ref d), .val (.int (Int32.ofNat (q + i))), .val (.int (Int32.ofNat len)), .val (.int (Int32.ofNat i)), .val (.int (cv A (o + i)))] [])) := c6.trans (st7 _ (Steps.refl _))
      have c9 : Steps p.tables e below (s₁.setTop (entryFrame m #[.ref b, .int (Int32.ofNat o), .ref d, .int (Int32.ofNat q), .int (Int32.ofNat len)] 7)) (T7.setTop (mkF m 3 #[.val (.ref b), .val (.int (Int32.ofNat (o + i) + 1)), .val (.ref d), .val (.int (Int32.ofNat (q + i) + 1)), .val (.int (Int32.ofNat len)), .val (.int (Int32.ofNat i + 1)), .val (.int (cv A (o + i)))] [])) := c8.trans (by
        refine iincV X7.here hexec rfl 1 (hb hbytes d32) (by decide) rfl rfl ?_
        refine iincV X7.here hexec rfl 1 (hb hbytes d35) (by decide) rfl rfl ?_
        refine iincV X7.here hexec rfl 1 (hb hbytes d38) (by decide) rfl rfl ?_
        refine XS.goto X7.here hexec rfl (pc0 := 41) rfl (hb hbytes d41) (by decide) rfl ?_
        exact Steps.refl _)
      have c10 : Steps p.tables e below (s₁.setTop (entryFrame m #[.ref b, .int (Int32.ofNat o), .ref d, .int (Int32.ofNat q), .int (Int32.ofNat len)] 7)) (T7.setTop (mkF m 3 #[.val (.ref b), .val (.int (Int32.ofNat (o + (i + 1)))), .val (.ref d), .val (.int (Int32.ofNat (q + (i + 1)))), .val (.int (Int32.ofNat len)), .val (.int (Int32.ofNat (i + 1))), .val (.int (cv A (o + i)))] [])) := by
        have := c9
        rw [succ32, succ32, succ32] at this
        exact this
      exact ih (i + 1) (by omega) _ (Or.inr ⟨_, rfl, rfl⟩) T7 _ (by rw [copyLocs_step, ← List.append_assoc]; exact X7) (pl.trans p7) (fl.step (by omega) hlt (by simp)) c10
  obtain ⟨T9, B9, z9, X9, p9, f9, g9⟩ := loop len 0 (by omega) .unset (Or.inl rfl) s₁ B (by simpa [copyLocs] using X0) ⟨hB0.1, fun _ _ => rfl, rfl⟩ (Laid.zero _ _ _) c2
  have c11 : Steps p.tables e below (s₁.setTop (entryFrame m #[.ref b, .int (Int32.ofNat o), .ref d, .int (Int32.ofNat q), .int (Int32.ofNat len)] 7)) (T9.setTop (mkF m 46 #[.val (.ref b), .val (.int (Int32.ofNat (o + len))), .val (.ref d), .val (.int (Int32.ofNat (q + len))), .val (.int (Int32.ofNat len)), .val (.int (Int32.ofNat len)), z9] [.int (Int32.ofNat len)])) := g9.trans (by
    refine XS.iload X9.here hexec rfl (hb hbytes d3) rfl ?_
    refine XS.iload X9.here hexec rfl (hb hbytes d5) rfl ?_
    refine XS.icmpYes X9.here hexec rfl (pc0 := 7) rfl (hb hbytes d7) rfl (ii_ge_t (nlt32 (by omega) (Nat.le_refl _))) (by decide) rfl ?_
    refine XS.iload X9.here hexec rfl (hb hbytes d44) rfl ?_
    exact Steps.refl _)
  exact ⟨T9, some (.int (Int32.ofNat len)), _, _, _, X9, by simp, rfl, rfl, (fun h => by cases h), ⟨rfl, B9, p9.from hh0, f9⟩, fun fs hl => c11.trans (X9.ireturnOut hexec hret rfl (Or.inl rfl) (hb hbytes d46) hl)⟩
end Cmp5
namespace Cmp3
def yN : MethodName := ⟨"java/lang/StringUTF16", "compress", "([CII)[B"⟩
abbrev yB : ByteArray := jdk_52_method_16_code
theorem d0 : decode yB 0 = .ok (.iload_n 2, 1) := by decide +kernel
theorem d1 : decode yB 1 = .ok (.newarray .byte, 2) := by decide +kernel
theorem d3 : decode yB 3 = .ok (.astore_n 3, 1) := by decide +kernel
theorem d4 : decode yB 4 = .ok (.aload_n 0, 1) := by decide +kernel
theorem d5 : decode yB 5 = .ok (.iload_n 1, 1) := by decide +kernel
theorem d6 : decode yB 6 = .ok (.aload_n 3, 1) := by decide +kernel
theorem d7 : decode yB 7 = .ok (.iconst 0, 1) := by decide +kernel
theorem d8 : decode yB 8 = .ok (.iload_n 2, 1) := by decide +kernel
theorem d9 : decode yB 9 = .ok (.invokestatic 115, 3) := by decide +kernel
theorem d12 : decode yB 12 = .ok (.istore 4, 2) := by decide +kernel
theorem d14 : decode yB 14 = .ok (.iload 4, 2) := by decide +kernel
theorem d16 : decode yB 16 = .ok (.iload_n 2, 1) := by decide +kernel
theorem d17 : decode yB 17 = .ok (.if_icmp (.eq) 40, 3) := by decide +kernel
theorem d57 : decode yB 57 = .ok (.aload_n 3, 1) := by decide +kernel
theorem d58 : decode yB 58 = .ok (.areturn, 1) := by decide +kernel
def site : List Cond := [.arrayClass .byte, Cmp5.tab] ++ staticW U16 115 Cmp5.yN
def tab : Cond := tabOf yN yB 6 (some (.array .byte)) site
def P (b : Addr) (A : Cell) (o len : Nat) (args : Array Value) (s : State) : Prop := args = #[.ref b, .int (Int32.ofNat o), .int (Int32.ofNat len)] ∧ Ch b A s ∧ o + len ≤ A.slots.size ∧ len ≤ 536870912 ∧ ∀ i, i < len → ¬ 255 < cv A (o + i)
def E (b : Addr) (A : Cell) (o len : Nat) (r : Option Value) (s u : State) : Prop := NewArr .byte "[B" len (fun j => .int (lo8 (cv A (o + j)))) r s u ∧ u.heap.size = s.heap.size + 1
/-- no char of the range above 255: a new byte[] of their low bytes -/
theorem law (l : Launch) (b : Addr) (A : Cell) (o len : Nat) : Law l yN 3 3 1 18 yB 6 (some (.array .byte)) site (P b A o len) (E b A o len) [] 1 len := by
  refine Law.of_walk (plainFor_of_name (by decide +kernel)) (by decide +kernel) (by decide +kernel) (by decide) (fun _ _ h => by rw [h.1]; rfl) (fun _ U U' hal hh h => ⟨h.1, h.2.1.mv hal hh, h.2.2⟩) (fun r U U' V V' h1 hal h2 h => ⟨NewArr.mv r U U' V V' h1 hal h2 h.1, by rw [h1, h2]; exact h.2⟩) ?_
  intro p e s m args below meth c s₁ X0 hexec hbytes hml hret hlk hnm hown hh0 W hP
  obtain ⟨rfl, hA, l1, l2, hp⟩ := hP
  have a31 := hA.1.2.2.2
  have c1 : Steps p.tables e below (s₁.setTop (entryFrame m #[.ref b, .int (Int32.ofNat o), .int (Int32.ofNat len)] 6)) (s₁.setTop (mkF m 0 #[.val (.ref b), .val (.int (Int32.ofNat o)), .val (.int (Int32.ofNat len)), .unset, .unset, .unset] [])) := entry rfl
  have c2 : Steps p.tables e below (s₁.setTop (entryFrame m #[.ref b, .int (Int32.ofNat o), .int (Int32.ofNat len)] 6)) (s₁.setTop (mkF m 1 #[.val (.ref b), .val (.int (Int32.ofNat o)), .val (.int (Int32.ofNat len)), .unset, .unset, .unset] [.int (Int32.ofNat len)])) := c1.trans (by
    refine XS.iloadN X0.here hexec rfl (hb hbytes d0) rfl ?_
    exact Steps.refl _)
  obtain ⟨T3, B3, X3, ba3, bs3, bv3, bh3, bf3, st3⟩ := X0.anew hexec (atype := .byte) (wk W (.arrayClass .byte)) rfl (by show len * 1 ≤ _; omega) (by omega) (g := (mkF m 1 #[.val (.ref b), .val (.int (Int32.ofNat o)), .val (.int (Int32.ofNat len)), .unset, .unset, .unset] [.int (Int32.ofNat len)])) rfl (hb hbytes d1) (rest := []) rfl (Nat.le_refl _) (by show 0 + len ≤ len; omega)
  rw [hh0] at ba3 st3
  have kp3 : XT.Kept s T3 := (XT.Kept.of_eq hh0).push bh3
  have hA3 := hA.keep X3.warmed.alike (kp3 _ _ hA.1.1)
  have hne : b ≠ s.heap.size := hA.1.ne
  have c4 : Steps p.tables e below (s₁.setTop (entryFrame m #[.ref b, .int (Int32.ofNat o), .int (Int32.ofNat len)] 6)) (T3.setTop (mkF m 3 #[.val (.ref b), .val (.int (Int32.ofNat o)), .val (.int (Int32.ofNat len)), .unset, .unset, .unset] [.ref s.heap.size])) := c2.trans (st3 _ (Steps.refl _))
  have c5 : Steps p.tables e below (s₁.setTop (entryFrame m #[.ref b, .int (Int32.ofNat o), .int (Int32.ofNat len)] 6)) (T3.setTop (mkF m 9 #[.val (.ref b), .val (.int (Int32.ofNat o)), .val (.int (Int32.ofNat len)), .val (.ref s.heap.size), .unset, .unset] [.int (Int32.ofNat len), .int 0, .ref s.heap.size, .int (Int32.ofNat o), .ref b])) := c4.trans (by
    refine XS.astoreN X3.here hexec rfl (hb hbytes d3) rfl rfl rfl ?_
    refine XS.aloadN X3.here hexec rfl (hb hbytes d4) rfl rfl ?_
    refine XS.iloadN X3.here hexec rfl (hb hbytes d5) rfl ?_
    refine XS.aloadN X3.here hexec rfl (hb hbytes d6) rfl rfl ?_
    refine iconstV X3.here hexec rfl 0 (hb hbytes d7) (by decide) ?_
    refine XS.iloadN X3.here hexec rfl (hb hbytes d8) rfl ?_
    exact Steps.refl _)
  obtain ⟨v6, T6, X6, E6, g6⟩ := X3.callS hexec (Cmp5.law l b A s.heap.size B3 o 0 len) hown (wks W (staticW U16 115 Cmp5.yN)) (wk W Cmp5.tab) (W := 0) (Nat.le_of_ble_eq_true rfl) (Nat.le_of_ble_eq_true rfl) (Nat.le_refl _) (by show 0 + len + 0 ≤ len; omega) (g := (mkF m 9 #[.val (.ref b), .val (.int (Int32.ofNat o)), .val (.int (Int32.ofNat len)), .val (.ref s.heap.size), .unset, .unset] [.int (Int32.ofNat len), .int (Int32.ofNat 0), .ref s.heap.size, .int (Int32.ofNat o), .ref b])) rfl (by rw [hml]; rfl) c5 (argsL := [.ref b, .int (Int32.ofNat o), .ref s.heap.size, .int (Int32.ofNat 0), .int (Int32.ofNat len)]) (rest := []) rfl rfl (by show 2 * 0 + 0 ≤ _; decide) (hb hbytes d9) (⟨rfl, hA3, ba3, hne, l1, by rw [bs3]; simp, hp⟩)
  obtain ⟨rfl, B6, p6, f6⟩ := E6
  have c7 : Steps p.tables e below (s₁.setTop (entryFrame m #[.ref b, .int (Int32.ofNat o), .int (Int32.ofNat len)] 6)) (T6.setTop (mkF m 12 #[.val (.ref b), .val (.int (Int32.ofNat o)), .val (.int (Int32.ofNat len)), .val (.ref s.heap.size), .unset, .unset] [.int (Int32.ofNat len)])) := g6
  have c8 : Steps p.tables e below (s₁.setTop (entryFrame m #[.ref b, .int (Int32.ofNat o), .int (Int32.ofNat len)] 6)) (T6.setTop (mkF m 58 #[.val (.ref b), .val (.int (Int32.ofNat o)), .val (.int (Int32.ofNat len)), .val (.ref s.heap.size), .val (.int (Int32.ofNat len)), .unset] [.ref s.heap.size])) := c7.trans (by
    refine XS.istore X6.here hexec rfl (hb hbytes d12) rfl rfl ?_
    refine XS.iload X6.here hexec rfl (hb hbytes d14) rfl ?_
    refine XS.iloadN X6.here hexec rfl (hb hbytes d16) rfl ?_
    refine XS.icmpYes X6.here hexec rfl (pc0 := 17) rfl (hb hbytes d17) rfl (ii_eq_t rfl) (by decide) rfl ?_
    refine XS.aloadN X6.here hexec rfl (hb hbytes d57) rfl rfl ?_
    exact Steps.refl _)
  have X8 := X6.wide (L' := []) (cells' := 1) (slots' := len) (fun x hx hlt => by
    simp only [List.nil_append, copyLocs, List.mem_map, List.mem_range] at hx
    obtain ⟨i, -, rfl⟩ := hx
    exact absurd hlt (Nat.lt_irrefl _)) (Nat.le_refl _) (by omega)
  exact ⟨T6, some (.ref s.heap.size), _, _, _, X8, rfl, rfl, rfl, (fun h => by cases h), ⟨⟨rfl, B6, ba3.like (X3.warmed.alike.symm.trans X6.warmed.alike) p6.1 f6.1 f6.2.1 f6.2.2.1, f6.2.1.trans bv3, by rw [X6.warmed.alike.findClass, f6.1]; exact bf3, by rw [f6.2.2.1, bs3]; simp, fun j hj => by rw [f6.2.2.2 j, if_pos (by omega)]; rfl, kp3.put p6 (Nat.le_refl _)⟩, by rw [p6.2.2, bh3, hh0]; simp⟩, fun fs hl => c8.trans (X8.areturnOut hexec rfl hret rfl (hb hbytes d58) hl)⟩
end Cmp3
namespace CodL
def yN : MethodName := ⟨"java/lang/StringUTF16", "coderFromArrayLen", "([BI)B"⟩
abbrev yB : ByteArray := jdk_52_method_15_code
theorem d0 : decode yB 0 = .ok (.iload_n 1, 1) := by decide +kernel
theorem d1 : decode yB 1 = .ok (.aload_n 0, 1) := by decide +kernel
theorem d2 : decode yB 2 = .ok (.arraylength, 1) := by decide +kernel
theorem d3 : decode yB 3 = .ok (.isub, 1) := by decide +kernel
theorem d4 : decode yB 4 = .ok (.bipush 31, 2) := by decide +kernel
theorem d6 : decode yB 6 = .ok (.iushr, 1) := by decide +kernel
theorem d7 : decode yB 7 = .ok (.i2b, 1) := by decide +kernel
theorem d8 : decode yB 8 = .ok (.ireturn, 1) := by decide +kernel
def site : List Cond := []
def tab : Cond := tabOf yN yB 2 (some .byte) site
def P (d : Addr) (B : Cell) (args : Array Value) (s : State) : Prop := args = #[.ref d, .int (Int32.ofNat B.slots.size)] ∧ Arr .byte d B s
def E (r : Option Value) (s u : State) : Prop := XT.PureE (some (.int 0)) r s u
/-- an array as long as the number of chars: LATIN1 -/
theorem law (l : Launch) (d : Addr) (B : Cell) : Law l yN 2 2 0 0 yB 2 (some .byte) site (P d B) E [] 0 0 := by
  refine Law.of_walk (plainFor_of_name (by decide +kernel)) (by decide +kernel) (by decide +kernel) (by decide) (fun _ _ h => by rw [h.1]; rfl) (fun _ U U' hal hh h => ⟨h.1, h.2.mv hal hh⟩) (fun r U U' V V' h1 hal h2 h => XT.PureE.mv r U U' V V' h1 hal h2 h) ?_
  intro p e s m args below meth c s₁ X0 hexec hbytes hml hret hlk hnm hown hh0 W hP
  obtain ⟨rfl, hB⟩ := hP
  have hB0 := hB.mv X0.warmed.alike hh0
  have c1 : Steps p.tables e below (s₁.setTop (entryFrame m #[.ref d, .int (Int32.ofNat B.slots.size)] 2)) (s₁.setTop (mkF m 0 #[.val (.ref d), .val (.int (Int32.ofNat B.slots.size))] [])) := entry rfl
  have c2 : Steps p.tables e below (s₁.setTop (entryFrame m #[.ref d, .int (Int32.ofNat B.slots.size)] 2)) (s₁.setTop (mkF m 2 #[.val (.ref d), .val (.int (Int32.ofNat B.slots.size))] [.ref d, .int (Int32.ofNat B.slots.size)])) := c1.trans (by
    refine XS.iloadN X0.here hexec rfl (hb hbytes d0) rfl ?_
    refine XS.aloadN X0.here hexec rfl (hb hbytes d1) rfl rfl ?_
    exact Steps.refl _)
  have c3 : Steps p.tables e below (s₁.setTop (entryFrame m #[.ref d, .int (Int32.ofNat B.slots.size)] 2)) (s₁.setTop (mkF m 8 #[.val (.ref d), .val (.int (Int32.ofNat B.slots.size))] [.int (lo8 (ushr (Int32.ofNat B.slots.size - Int32.ofNat B.slots.size) 31))])) := c2.trans (by
    refine X0.alen hexec hB0 rfl rfl (hb hbytes d2) ?_
    refine XS.isub X0.here hexec rfl (hb hbytes d3) rfl ?_
    refine bipushV X0.here hexec rfl 31 (hb hbytes d4) (by decide) ?_
    refine iushr X0.here hexec rfl (hb hbytes d6) rfl ?_
    refine i2b X0.here hexec rfl (hb hbytes d7) rfl ?_
    exact Steps.refl _)
  have e0 : lo8 (ushr (Int32.ofNat B.slots.size - Int32.ofNat B.slots.size) 31) = 0 := by rw [Int32.sub_self]; decide
  rw [e0] at c3
  exact ⟨s₁, some (.int 0), _, _, _, X0, rfl, rfl, rfl, (fun h => by cases h), ⟨rfl, hh0⟩, fun fs hl => c3.trans (X0.ireturnOut hexec hret rfl (Or.inr (Or.inr (Or.inl rfl))) (hb hbytes d8) hl)⟩
end CodL
/-- the String at a is Latin-1 over a new byte[] (the heap's one new cell): the low bytes of the len chars of A from o on; every cell but a is kept -/
def Got (a : Addr) (D : Cell) (fV fC : Field) (A : Cell) (o len : Nat) (r : Option Value) (s u : State) : Prop := r = none ∧ ∃ D' V : Cell, Blank "java/lang/String" a D' u ∧ Same D D' [fV.slot, fC.slot] ∧ D'.slots[fV.slot]? = some (.ref s.heap.size) ∧ D'.slots[fC.slot]? = some (.int 0) ∧ Arr .byte s.heap.size V u ∧ V.vm = .none ∧ u.vm.findClass "[B" = some V.cls ∧ V.slots.size = len ∧ (∀ j, j < len → V.slots[j]? = some (.int (lo8 (cv A (o + j))))) ∧ (∀ (y : Addr) (c : Cell), y ≠ a → s.heap[y]? = some c → u.heap[y]? = some c) ∧ u.heap.size = s.heap.size + 1
theorem Got.mv {a : Addr} {D A : Cell} {fV fC : Field} {o len : Nat} : ∀ r (U U' V V' : State), U'.heap = U.heap → V.vm.Alike V'.vm → V'.heap = V.heap → Got a D fV fC A o len r U V → Got a D fV fC A o len r U' V' :=
  fun r U U' V V' h1 hal h2 ⟨e0, D', X, a1, a2, a3, a4, a5, a6, a7, a8, a9, a10, a11⟩ => ⟨e0, D', X, a1.mv hal h2, a2, by rw [h1]; exact a3, a4, by rw [h1]; exact a5.mv hal h2, a6, by rw [hal.findClass]; exact a7, a8, a9, by rw [h1, h2]; exact a10, by rw [h1, h2]; exact a11⟩
namespace New4
def yN : MethodName := ⟨"java/lang/String", "<init>", "([CIILjava/lang/Void;)V"⟩
abbrev yB : ByteArray := jdk_42_method_149_code
theorem d0 : decode yB 0 = .ok (.aload_n 0, 1) := by decide +kernel
theorem d1 : decode yB 1 = .ok (.invokespecial 1, 3) := by decide +kernel
theorem d4 : decode yB 4 = .ok (.iload_n 3, 1) := by decide +kernel
theorem d5 : decode yB 5 = .ok (.ifCond (.ne) 22, 3) := by decide +kernel
theorem d27 : decode yB 27 = .ok (.getstatic 38, 3) := by decide +kernel
theorem d30 : decode yB 30 = .ok (.ifCond (.eq) 28, 3) := by decide +kernel
theorem d33 : decode yB 33 = .ok (.aload_n 1, 1) := by decide +kernel
theorem d34 : decode yB 34 = .ok (.iload_n 2, 1) := by decide +kernel
theorem d35 : decode yB 35 = .ok (.iload_n 3, 1) := by decide +kernel
theorem d36 : decode yB 36 = .ok (.invokestatic 177, 3) := by decide +kernel
theorem d39 : decode yB 39 = .ok (.astore 5, 2) := by decide +kernel
theorem d41 : decode yB 41 = .ok (.aload_n 0, 1) := by decide +kernel
theorem d42 : decode yB 42 = .ok (.aload 5, 2) := by decide +kernel
theorem d44 : decode yB 44 = .ok (.iload_n 3, 1) := by decide +kernel
theorem d45 : decode yB 45 = .ok (.invokestatic 47, 3) := by decide +kernel
theorem d48 : decode yB 48 = .ok (.putfield 15, 3) := by decide +kernel
theorem d51 : decode yB 51 = .ok (.aload_n 0, 1) := by decide +kernel
theorem d52 : decode yB 52 = .ok (.aload 5, 2) := by decide +kernel
theorem d54 : decode yB 54 = .ok (.putfield 9, 3) := by decide +kernel
theorem d57 : decode yB 57 = .ok (.return_, 1) := by decide +kernel
def site : List Cond := [.fieldLink "java/lang/String" 38 "java/lang/String" "COMPACT_STRINGS" "Z", Cmp3.tab, CodL.tab, .laysFinal "java/lang/String" "java/lang/String" "value" "[B", .fieldLink "java/lang/String" 9 "java/lang/String" "value" "[B", .laysFinal "java/lang/String" "java/lang/String" "coder" "B", .fieldLink "java/lang/String" 15 "java/lang/String" "coder" "B"] ++ objW "java/lang/String" 1 ++ staticW "java/lang/String" 177 Cmp3.yN ++ staticW "java/lang/String" 47 CodL.yN
def tab : Cond := tabOf yN yB 6 none site
def P (a : Addr) (D : Cell) (fV fC : Field) (b : Addr) (A : Cell) (z : Int32) (o len : Nat) (args : Array Value) (s : State) : Prop := args = #[.ref a, .ref b, .int (Int32.ofNat o), .int (Int32.ofNat len), .null] ∧ Blank "java/lang/String" a D s ∧ Found "java/lang/String" "value" "[B" fV s ∧ Found "java/lang/String" "coder" "B" fC s ∧ Ch b A s ∧ StaticIs s "java/lang/String" "COMPACT_STRINGS" "Z" (.int z) ∧ ¬ z = 0 ∧ 0 < len ∧ o + len ≤ A.slots.size ∧ len ≤ 536870912 ∧ ∀ i, i < len → ¬ 255 < cv A (o + i)
def E (a : Addr) (D : Cell) (fV fC : Field) (A : Cell) (o len : Nat) (r : Option Value) (s u : State) : Prop := Got a D fV fC A o len r s u
/-- len > 0, no char of the range above 255: a Latin-1 String of their low bytes -/
theorem law (l : Launch) (a : Addr) (D : Cell) (fV fC : Field) (b : Addr) (A : Cell) (z : Int32) (o len : Nat) : Law l yN 5 4 2 35 yB 6 none site (P a D fV fC b A z o len) (E a D fV fC A o len) [⟨a, fC.slot⟩, ⟨a, fV.slot⟩] 1 len := by
  refine Law.of_walk (plainFor_of_name (by decide +kernel)) (by decide +kernel) (by decide +kernel) (by decide) (fun _ _ h => by rw [h.1]; rfl) (fun _ U U' hal hh h => ⟨h.1, h.2.1.mv hal hh, h.2.2.1.al hal, h.2.2.2.1.al hal, h.2.2.2.2.1.mv hal hh, h.2.2.2.2.2.1.there hal hh, h.2.2.2.2.2.2⟩) (fun r U U' V V' h1 hal h2 h => Got.mv r U U' V V' h1 hal h2 h) ?_
  intro p e s m args below meth c s₁ X0 hexec hbytes hml hret hlk hnm hown hh0 W hP
  obtain ⟨rfl, hB, f1, f2, hA, s1, hz, l0, l1, l2, hp⟩ := hP
  have a31 := hA.1.2.2.2
  have c1 : Steps p.tables e below (s₁.setTop (entryFrame m #[.ref a, .ref b, .int (Int32.ofNat o), .int (Int32.ofNat len), .null] 6)) (s₁.setTop (mkF m 0 #[.val (.ref a), .val (.ref b), .val (.int (Int32.ofNat o)), .val (.int (Int32.ofNat len)), .val .null, .unset] [])) := entry rfl
  have c2 : Steps p.tables e below (s₁.setTop (entryFrame m #[.ref a, .ref b, .int (Int32.ofNat o), .int (Int32.ofNat len), .null] 6)) (s₁.setTop (mkF m 1 #[.val (.ref a), .val (.ref b), .val (.int (Int32.ofNat o)), .val (.int (Int32.ofNat len)), .val .null, .unset] [.ref a])) := c1.trans (by
    refine XS.aloadN X0.here hexec rfl (hb hbytes d0) rfl rfl ?_
    exact Steps.refl _)
  obtain ⟨T3, X3, q3, st3⟩ := X0.oinit hexec hown (wks W (objW "java/lang/String" 1)) (g := (mkF m 1 #[.val (.ref a), .val (.ref b), .val (.int (Int32.ofNat o)), .val (.int (Int32.ofNat len)), .val .null, .unset] [.ref a])) rfl (by rw [hml]; rfl) (rest := []) rfl (hb hbytes d1) (W := 0) (by show 2 * 0 + 0 ≤ _; decide) (Nat.le_of_ble_eq_true rfl) (Nat.le_of_ble_eq_true rfl)
  have hh3 := q3.trans hh0
  have c4 : Steps p.tables e below (s₁.setTop (entryFrame m #[.ref a, .ref b, .int (Int32.ofNat o), .int (Int32.ofNat len), .null] 6)) (T3.setTop (mkF m 27 #[.val (.ref a), .val (.ref b), .val (.int (Int32.ofNat o)), .val (.int (Int32.ofNat len)), .val .null, .unset] [])) := (c2.trans (st3 _ (Steps.refl _))).trans (by
    refine XS.iloadN X3.here hexec rfl (hb hbytes d4) rfl ?_
    refine XS.ifYes X3.here hexec rfl (pc0 := 5) rfl (hb hbytes d5) rfl (i0_ne_t (nz32 (by omega) l0)) (by decide) rfl ?_
    exact Steps.refl _)
  obtain ⟨T5, X5, q5, st5⟩ := X3.sget hexec hown (wk W (.fieldLink "java/lang/String" 38 "java/lang/String" "COMPACT_STRINGS" "Z")) s1 (fun _ _ h => by rw [hh3]; exact h) (g := (mkF m 27 #[.val (.ref a), .val (.ref b), .val (.int (Int32.ofNat o)), .val (.int (Int32.ofNat len)), .val .null, .unset] [])) rfl (hb hbytes d27)
  have hh5 := q5.trans hh3
  have c6 : Steps p.tables e below (s₁.setTop (entryFrame m #[.ref a, .ref b, .int (Int32.ofNat o), .int (Int32.ofNat len), .null] 6)) (T5.setTop (mkF m 30 #[.val (.ref a), .val (.ref b), .val (.int (Int32.ofNat o)), .val (.int (Int32.ofNat len)), .val .null, .unset] [.int z])) := c4.trans (st5 _ (Steps.refl _))
  have c7 : Steps p.tables e below (s₁.setTop (entryFrame m #[.ref a, .ref b, .int (Int32.ofNat o), .int (Int32.ofNat len), .null] 6)) (T5.setTop (mkF m 36 #[.val (.ref a), .val (.ref b), .val (.int (Int32.ofNat o)), .val (.int (Int32.ofNat len)), .val .null, .unset] [.int (Int32.ofNat len), .int (Int32.ofNat o), .ref b])) := c6.trans (by
    refine XS.ifNo X5.here hexec rfl (hb hbytes d30) rfl (i0_eq_f hz) ?_
    refine XS.aloadN X5.here hexec rfl (hb hbytes d33) rfl rfl ?_
    refine XS.iloadN X5.here hexec rfl (hb hbytes d34) rfl ?_
    refine XS.iloadN X5.here hexec rfl (hb hbytes d35) rfl ?_
    exact Steps.refl _)
  obtain ⟨v8, T8, X8, E8, g8⟩ := X5.callS hexec (Cmp3.law l b A o len) hown (wks W (staticW "java/lang/String" 177 Cmp3.yN)) (wk W Cmp3.tab) (W := 0) (Nat.le_of_ble_eq_true rfl) (Nat.le_of_ble_eq_true rfl) (Nat.le_refl _) (by show 0 + len ≤ len; omega) (g := (mkF m 36 #[.val (.ref a), .val (.ref b), .val (.int (Int32.ofNat o)), .val (.int (Int32.ofNat len)), .val .null, .unset] [.int (Int32.ofNat len), .int (Int32.ofNat o), .ref b])) rfl (by rw [hml]; rfl) c7 (argsL := [.ref b, .int (Int32.ofNat o), .int (Int32.ofNat len)]) (rest := []) rfl rfl (by show 2 * 0 + 0 ≤ _; decide) (hb hbytes d36) (⟨rfl, hA.mv X5.warmed.alike hh5, l1, l2, hp⟩)
  obtain ⟨e8, z8⟩ := E8
  obtain ⟨rfl, N, n1, n2, n3, n4, n5, n6⟩ := NewArr.mv _ T5 s _ _ hh5.symm (Vm.Alike.refl _) rfl e8
  rw [hh5] at z8
  have hB1 := hB.keep X8.warmed.alike (n6 _ _ hB.1)
  have hne : s.heap.size ≠ a := (Nat.ne_of_lt (Array.getElem?_eq_some_iff.mp hB.1).1).symm
  have c9 : Steps p.tables e below (s₁.setTop (entryFrame m #[.ref a, .ref b, .int (Int32.ofNat o), .int (Int32.ofNat len), .null] 6)) (T8.setTop (mkF m 39 #[.val (.ref a), .val (.ref b), .val (.int (Int32.ofNat o)), .val (.int (Int32.ofNat len)), .val .null, .unset] [.ref s.heap.size])) := g8
  have c10 : Steps p.tables e below (s₁.setTop (entryFrame m #[.ref a, .ref b, .int (Int32.ofNat o), .int (Int32.ofNat len), .null] 6)) (T8.setTop (mkF m 45 #[.val (.ref a), .val (.ref b), .val (.int (Int32.ofNat o)), .val (.int (Int32.ofNat len)), .val .null, .val (.ref s.heap.size)] [.int (Int32.ofNat N.slots.size), .ref s.heap.size, .ref a])) := by
    have hc : Steps p.tables e below (s₁.setTop (entryFrame m #[.ref a, .ref b, .int (Int32.ofNat o), .int (Int32.ofNat len), .null] 6)) (T8.setTop (mkF m 45 #[.val (.ref a), .val (.ref b), .val (.int (Int32.ofNat o)), .val (.int (Int32.ofNat len)), .val .null, .val (.ref s.heap.size)] [.int (Int32.ofNat len), .ref s.heap.size, .ref a])) := c9.trans (by
      refine XS.astore X8.here hexec rfl (hb hbytes d39) rfl rfl rfl ?_
      refine XS.aloadN X8.here hexec rfl (hb hbytes d41) rfl rfl ?_
      refine XS.aload X8.here hexec rfl (hb hbytes d42) rfl rfl ?_
      refine XS.iloadN X8.here hexec rfl (hb hbytes d44) rfl ?_
      exact Steps.refl _)
    rw [n4]; exact hc
  obtain ⟨v11, T11, X11, E11, g11⟩ := X8.callS hexec (CodL.law l s.heap.size N) hown (wks W (staticW "java/lang/String" 47 CodL.yN)) (wk W CodL.tab) (W := 1) (Nat.le_of_ble_eq_true rfl) (Nat.le_of_ble_eq_true rfl) (Nat.le_refl _) (by show 0 + len + 0 ≤ len; omega) (g := (mkF m 45 #[.val (.ref a), .val (.ref b), .val (.int (Int32.ofNat o)), .val (.int (Int32.ofNat len)), .val .null, .val (.ref s.heap.size)] [.int (Int32.ofNat N.slots.size), .ref s.heap.size, .ref a])) rfl (by rw [hml]; rfl) c10 (argsL := [.ref s.heap.size, .int (Int32.ofNat N.slots.size)]) (rest := [.ref a]) rfl rfl (by show 2 * 0 + (1 + 0) ≤ _; decide) (hb hbytes d45) (⟨rfl, n1⟩)
  obtain ⟨rfl, q11⟩ := E11
  have hB11 := hB1.mv (X8.warmed.alike.symm.trans X11.warmed.alike) q11
  have c12 : Steps p.tables e below (s₁.setTop (entryFrame m #[.ref a, .ref b, .int (Int32.ofNat o), .int (Int32.ofNat len), .null] 6)) (T11.setTop (mkF m 48 #[.val (.ref a), .val (.ref b), .val (.int (Int32.ofNat o)), .val (.int (Int32.ofNat len)), .val .null, .val (.ref s.heap.size)] [.int 0, .ref a])) := g11
  obtain ⟨T13, X13, p13, bl13, sl13, st13⟩ := X11.finit hexec hown (wk W (.fieldLink "java/lang/String" 15 "java/lang/String" "coder" "B")) (Or.inr ⟨_, (wk W (.laysFinal "java/lang/String" "java/lang/String" "coder" "B"))⟩) (Or.inl ⟨rfl, hnm⟩) f2 (Or.inl rfl) hB11 (t := .byte) (by decide +kernel) rfl (g := (mkF m 48 #[.val (.ref a), .val (.ref b), .val (.int (Int32.ofNat o)), .val (.int (Int32.ofNat len)), .val .null, .val (.ref s.heap.size)] [.int 0, .ref a])) rfl (rest := []) rfl (hb hbytes d48)
  have c14 : Steps p.tables e below (s₁.setTop (entryFrame m #[.ref a, .ref b, .int (Int32.ofNat o), .int (Int32.ofNat len), .null] 6)) (T13.setTop (mkF m 54 #[.val (.ref a), .val (.ref b), .val (.int (Int32.ofNat o)), .val (.int (Int32.ofNat len)), .val .null, .val (.ref s.heap.size)] [.ref s.heap.size, .ref a])) := (c12.trans (st13 _ (Steps.refl _))).trans (by
    refine XS.aloadN X13.here hexec rfl (hb hbytes d51) rfl rfl ?_
    refine XS.aload X13.here hexec rfl (hb hbytes d52) rfl rfl ?_
    exact Steps.refl _)
  obtain ⟨T15, X15, p15, bl15, sl15, st15⟩ := X13.finit hexec hown (wk W (.fieldLink "java/lang/String" 9 "java/lang/String" "value" "[B")) (Or.inr ⟨_, (wk W (.laysFinal "java/lang/String" "java/lang/String" "value" "[B"))⟩) (Or.inl ⟨rfl, hnm⟩) f1 (Or.inl rfl) bl13 (t := (.array .byte)) (by decide +kernel) rfl (g := (mkF m 54 #[.val (.ref a), .val (.ref b), .val (.int (Int32.ofNat o)), .val (.int (Int32.ofNat len)), .val .null, .val (.ref s.heap.size)] [.ref s.heap.size, .ref a])) rfl (rest := []) rfl (hb hbytes d54)
  have c16 : Steps p.tables e below (s₁.setTop (entryFrame m #[.ref a, .ref b, .int (Int32.ofNat o), .int (Int32.ofNat len), .null] 6)) (T15.setTop (mkF m 57 #[.val (.ref a), .val (.ref b), .val (.int (Int32.ofNat o)), .val (.int (Int32.ofNat len)), .val .null, .val (.ref s.heap.size)] [])) := c14.trans (st15 _ (Steps.refl _))
  have ap := apart (Or.inr ⟨_, (wk W (.laysFinal "java/lang/String" "java/lang/String" "value" "[B"))⟩) (Or.inr ⟨_, (wk W (.laysFinal "java/lang/String" "java/lang/String" "coder" "B"))⟩) f1 f2 (t₁ := .array .byte) (t₂ := .byte) (by decide +kernel) (by decide +kernel) (by decide)
  have al := X8.warmed.alike.symm.trans X15.warmed.alike
  have n7 : T11.heap[s.heap.size]? = some N := by rw [q11]; exact n1.1
  exact ⟨T15, none, _, _, _, X15, by simp, rfl, by omega, (fun _ => rfl), ⟨rfl, _, N, bl15, ((Same.refl D _).set _ (by simp)).set _ (by simp), sl15, (Cell.slots_setSlot_ne _ ap).trans sl13, n1.keep al (p15.other hne (p13.other hne n7)), n2, by rw [al.findClass]; exact n3, n4, n5, fun y c h1 h2 => p15.other h1 (p13.other h1 (by rw [q11]; exact n6 y c h2)), by rw [p15.2.2, p13.2.2, q11]; exact z8⟩, fun fs hl => c16.trans (X15.returnOut hexec hret (hb hbytes d57) hl)⟩
end New4
namespace New1
def yN : MethodName := ⟨"java/lang/String", "<init>", "([C)V"⟩
abbrev yB : ByteArray := jdk_42_method_3_code
theorem d0 : decode yB 0 = .ok (.aload_n 0, 1) := by decide +kernel
theorem d1 : decode yB 1 = .ok (.aload_n 1, 1) := by decide +kernel
theorem d2 : decode yB 2 = .ok (.iconst 0, 1) := by decide +kernel
theorem d3 : decode yB 3 = .ok (.aload_n 1, 1) := by decide +kernel
theorem d4 : decode yB 4 = .ok (.arraylength, 1) := by decide +kernel
theorem d5 : decode yB 5 = .ok (.aconst_null, 1) := by decide +kernel
theorem d6 : decode yB 6 = .ok (.invokespecial 27, 3) := by decide +kernel
theorem d9 : decode yB 9 = .ok (.return_, 1) := by decide +kernel
def site : List Cond := [New4.tab] ++ initW "java/lang/String" 27 New4.yN
def tab : Cond := tabOf yN yB 2 none site
def P (a : Addr) (D : Cell) (fV fC : Field) (b : Addr) (A : Cell) (z : Int32) (args : Array Value) (s : State) : Prop := args = #[.ref a, .ref b] ∧ Blank "java/lang/String" a D s ∧ Found "java/lang/String" "value" "[B" fV s ∧ Found "java/lang/String" "coder" "B" fC s ∧ Ch b A s ∧ StaticIs s "java/lang/String" "COMPACT_STRINGS" "Z" (.int z) ∧ ¬ z = 0 ∧ 0 < A.slots.size ∧ A.slots.size ≤ 536870912 ∧ ∀ i, i < A.slots.size → ¬ 255 < cv A i
def E (a : Addr) (D : Cell) (fV fC : Field) (A : Cell) (r : Option Value) (s u : State) : Prop := Got a D fV fC A 0 A.slots.size r s u
/-- new String(chars), not empty, no char above 255: a Latin-1 String of their low bytes -/
theorem law (l : Launch) (a : Addr) (D : Cell) (fV fC : Field) (b : Addr) (A : Cell) (z : Int32) : Law l yN 2 1 3 52 yB 2 none site (P a D fV fC b A z) (E a D fV fC A) [⟨a, fC.slot⟩, ⟨a, fV.slot⟩] 1 A.slots.size := by
  refine Law.of_walk (plainFor_of_name (by decide +kernel)) (by decide +kernel) (by decide +kernel) (by decide) (fun _ _ h => by rw [h.1]; rfl) (fun _ U U' hal hh h => ⟨h.1, h.2.1.mv hal hh, h.2.2.1.al hal, h.2.2.2.1.al hal, h.2.2.2.2.1.mv hal hh, h.2.2.2.2.2.1.there hal hh, h.2.2.2.2.2.2⟩) (fun r U U' V V' h1 hal h2 h => Got.mv r U U' V V' h1 hal h2 h) ?_
  intro p e s m args below meth c s₁ X0 hexec hbytes hml hret hlk hnm hown hh0 W hP
  obtain ⟨rfl, hB, f1, f2, hA, s1, hz, l0, l2, hp⟩ := hP
  have c1 : Steps p.tables e below (s₁.setTop (entryFrame m #[.ref a, .ref b] 2)) (s₁.setTop (mkF m 0 #[.val (.ref a), .val (.ref b)] [])) := entry rfl
  have c2 : Steps p.tables e below (s₁.setTop (entryFrame m #[.ref a, .ref b] 2)) (s₁.setTop (mkF m 6 #[.val (.ref a), .val (.ref b)] [.null, .int (Int32.ofNat A.slots.size), .int 0, .ref b, .ref a])) := c1.trans (by
    refine XS.aloadN X0.here hexec rfl (hb hbytes d0) rfl rfl ?_
    refine XS.aloadN X0.here hexec rfl (hb hbytes d1) rfl rfl ?_
    refine iconstV X0.here hexec rfl 0 (hb hbytes d2) (by decide) ?_
    refine XS.aloadN X0.here hexec rfl (hb hbytes d3) rfl rfl ?_
    refine X0.alen hexec (hA.1.mv X0.warmed.alike hh0) rfl rfl (hb hbytes d4) ?_
    refine XS.aconstNull X0.here hexec rfl (hb hbytes d5) ?_
    exact Steps.refl _)
  obtain ⟨v3, T3, X3, E3, g3⟩ := X0.callN hexec (New4.law l a D fV fC b A z 0 A.slots.size) rfl hown (wks W (initW "java/lang/String" 27 New4.yN)) (W New4.tab (by simp only [site, List.mem_cons, List.mem_append, true_or, or_true])) (W := 0) (Nat.le_of_ble_eq_true rfl) (Nat.le_of_ble_eq_true rfl) (Nat.le_refl _) (by show 0 + A.slots.size ≤ A.slots.size; omega) (g := (mkF m 6 #[.val (.ref a), .val (.ref b)] [.null, .int (Int32.ofNat A.slots.size), .int (Int32.ofNat 0), .ref b, .ref a])) rfl (by rw [hml]; rfl) c2 (argsL := [.ref b, .int (Int32.ofNat 0), .int (Int32.ofNat A.slots.size), .null]) (rest := []) rfl rfl (by show 2 * 0 + 0 ≤ _; decide) (hb hbytes d6) (⟨rfl, hB.mv X0.warmed.alike hh0, f1.al X0.warmed.alike, f2.al X0.warmed.alike, hA.mv X0.warmed.alike hh0, s1.there X0.warmed.alike hh0, hz, l0, by omega, l2, fun i hi => by rw [Nat.zero_add]; exact hp i hi⟩)
  have e0 := Got.mv _ s₁ s _ _ hh0.symm (Vm.Alike.refl _) rfl E3
  obtain rfl := e0.1
  have c4 : Steps p.tables e below (s₁.setTop (entryFrame m #[.ref a, .ref b] 2)) (T3.setTop (mkF m 9 #[.val (.ref a), .val (.ref b)] [])) := g3
  exact ⟨T3, none, _, _, _, X3, by simp, rfl, by omega, (fun _ => rfl), e0, fun fs hl => c4.trans (X3.returnOut hexec hret (hb hbytes d9) hl)⟩
theorem pays {l : Launch} {R : Room} {p : Program} {e : Env} {below : List Frame} {s : State} {sargs : Array Value} {len W : Nat} (a : Addr) (D : Cell) (fV fC : Field) (b : Addr) (A : Cell) (z : Int32) (htab : tab.before sargs s = true) (hfr : 4 ≤ R.frames) (hlo : W + 65 ≤ R.locals) :
    Back l R p e below s sargs yN len W (fun A₁ a₁ => A₁.cells + 1 ≤ R.cells ∧ A₁.slots + A.slots.size ≤ R.slots ∧ P a D fV fC b A z a₁ A₁.U) (fun A₁ _ v₁ B₁ => E a D fV fC A v₁ A₁.U B₁.U ∧ B₁.locs = A₁.locs ++ [⟨a, fC.slot⟩, ⟨a, fV.slot⟩] ∧ B₁.cells = A₁.cells + 1 ∧ B₁.slots = A₁.slots + A.slots.size) :=
  (law l a D fV fC b A z).pays htab hfr (by omega)
end New1
end StrChars
namespace StrChars.Road
open Jvm Sem ClassFile Op Lib Jvm.Stand Jvm.Free Jvm.Free.XT
open Jvm.Lib.Cold (StaticIs)
abbrev ST : String := "java/lang/String"
/-- every table word that New1's law asks, flat -/
abbrev words : List Jvm.Cond := [.code New1.yN New1.yB 2 none, .initialized ST, .methodLink ST 27 New4.yN, .instanceMethod New4.yN,
  .code New4.yN New4.yB 6 none, .fieldLink ST 38 ST "COMPACT_STRINGS" "Z", .laysFinal ST ST "value" "[B", .fieldLink ST 9 ST "value" "[B", .laysFinal ST ST "coder" "B", .fieldLink ST 15 ST "coder" "B",
  .methodLink ST 1 Lib.objectInit, .instanceMethod Lib.objectInit, .code Lib.objectInit ⟨#[0xb1]⟩ 1 none, .methodLink ST 177 Cmp3.yN, .static Cmp3.yN, .methodLink ST 47 CodL.yN, .static CodL.yN,
  .code Cmp3.yN Cmp3.yB 6 (some (.array .byte)), .initialized U16, .arrayClass .byte, .methodLink U16 115 Cmp5.yN, .static Cmp5.yN, .code Cmp5.yN Cmp5.yB 7 (some .int), .code CodL.yN CodL.yB 2 (some .byte)]
theorem tab_of {a : Array Value} {s : State} (h : ∀ w ∈ words, w.before a s = true) : New1.tab.before a s = true := by
  have h5 : Cmp5.tab.before a s = true := unparts (wk h (.code Cmp5.yN Cmp5.yB 7 (some .int))) (wks h (.initialized Cmp5.yN.cls :: Cmp5.site))
  have hc : CodL.tab.before a s = true := unparts (wk h (.code CodL.yN CodL.yB 2 (some .byte))) (wks h (.initialized CodL.yN.cls :: CodL.site))
  have q5 : ∀ w ∈ Cmp5.tab :: words, w.before a s = true := fun w hw => (List.mem_cons.mp hw).elim (fun e => e ▸ h5) (h w)
  have h3 : Cmp3.tab.before a s = true := unparts (wk q5 (.code Cmp3.yN Cmp3.yB 6 (some (.array .byte)))) (wks q5 (.initialized Cmp3.yN.cls :: Cmp3.site))
  have q3 : ∀ w ∈ Cmp3.tab :: CodL.tab :: words, w.before a s = true := fun w hw => (List.mem_cons.mp hw).elim (fun e => e ▸ h3) fun hw => (List.mem_cons.mp hw).elim (fun e => e ▸ hc) (h w)
  have h4 : New4.tab.before a s = true := unparts (wk q3 (.code New4.yN New4.yB 6 none)) (wks q3 (.initialized New4.yN.cls :: New4.site))
  have q4 : ∀ w ∈ New4.tab :: words, w.before a s = true := fun w hw => (List.mem_cons.mp hw).elim (fun e => e ▸ h4) (h w)
  exact unparts (wk q4 (.code New1.yN New1.yB 2 none)) (wks q4 (.initialized New1.yN.cls :: New1.site))
/-- the words ride from the start Z to the walk's own state -/
theorem moved {Z s : State} {a0 args : Array Value} (hZ : Z.Warmed39 s.vm) (hw : ∀ d ∈ words, d.before a0 Z = true) : ∀ d ∈ words, d.before args s = true := fun d hd => by
  have q := hw d hd
  have t : ∀ d ∈ words, d = .arrayClass .byte ∨ (d.onTables && d.keepsFace) = true := by decide +kernel
  rcases t d hd with rfl | t
  · exact RoadKit.mvA hZ q
  · exact RoadKit.mv hZ q t
/-- WHAT COMES BACK, over the tables of the start Z: h the heap at the call, h' behind it -/
def Q (Z : State) (x : Addr) (A : Cell) (h : Heap) (v : Option Value) (h' : Heap) (L : List Loc) : Prop := v = none ∧ (∀ y ∈ L, y.base = x) ∧ RoadKit.Keep h h' [x] ∧ h'.size = h.size + 1 ∧ RoadKit.Exa Z h' x ST ∧ RoadKit.Fld Z h' x ST "value" "[B" (.ref h.size) ∧ RoadKit.Fld Z h' x ST "coder" "B" (.int 0) ∧
  (∃ V : Cell, RoadKit.Arr Z h' h.size V .byte ∧ V.vm = .none ∧ Z.vm.findClass "[B" = some V.cls ∧ V.slots.size = A.slots.size ∧ ∀ j, j < A.slots.size → V.slots[j]? = some (.int (lo8 (cv A j)))) ∧
  ∀ (O n d : String) (w : Value), RoadKit.Fld Z h x O n d w → RoadKit.slotOf Z O n d ≠ RoadKit.slotOf Z ST "value" "[B" → RoadKit.slotOf Z O n d ≠ RoadKit.slotOf Z ST "coder" "B" → RoadKit.Fld Z h' x O n d w
/-- **new String(chars) AT A CALL, IN THE ROAD'S FORM**: for specialBack behind newO: x the fresh String, b the char[] with the cell A -/
theorem back {p : Program} {l : Launch} {e : Env} {R : Room} {s : State} {args : Array Value} {below : List Frame} {len W : Nat} {Z : State} {a0 : Array Value} {h : Heap} (hZ : Z.Warmed39 s.vm) (hw : ∀ d ∈ words, d.before a0 Z = true) {kI : Nat} (wi : (Jvm.Cond.instantiable ST kI).before a0 Z = true)
    {x b : Addr} {A : Cell} {z : Int32} {v0 c0 : Value} (E : RoadKit.Exa Z h x ST) (V : RoadKit.Fld Z h x ST "value" "[B" v0) (C : RoadKit.Fld Z h x ST "coder" "B" c0) (K : RoadKit.Arr Z h b A .char) (hty : Typed .char A) (S : RoadKit.Sta Z h ST "COMPACT_STRINGS" "Z" (.int z)) (hz : ¬ z = 0)
    (l0 : 0 < A.slots.size) (l2 : A.slots.size ≤ 536870912) (hp : ∀ i, i < A.slots.size → ¬ 255 < cv A i) (hfr : 4 ≤ R.frames) (hlo : W + 65 ≤ R.locals) :
    Back l R p e below s args New1.yN len W (fun P a => a = #[.ref x, .ref b] ∧ P.U.heap = h ∧ P.cells + 1 ≤ R.cells ∧ P.slots + A.slots.size ≤ R.slots)
      (fun P _ v B => ∃ L, Q Z x A h v B.U.heap L ∧ B.locs = P.locs ++ L ∧ B.cells = P.cells + 1 ∧ B.slots = P.slots + A.slots.size) := by
  intro m meth c P g ig mk a X hg hsize hdg hW hn hp'
  obtain ⟨rfl, rfl, r1, r2⟩ := hp'
  have al : Z.vm.Alike P.U.vm := hZ.alike.trans X.warmed.alike
  obtain ⟨D, cfV, kV, iV, fV, hD, gV, stV, knV, obV, asV, slV⟩ := id V
  obtain ⟨D', cfC, kC, iC, fC, hD', gC, stC, -, -, asC, slC⟩ := id C
  cases hD.symm.trans hD'
  obtain ⟨D2, kD, e1, e2, e3, e4, e5⟩ := id E
  cases hD.symm.trans e1
  obtain ⟨c2, k2, i1, i2, i3, -⟩ := Cond.instantiable_spec wi
  cases e2.symm.trans i1
  cases e3.symm.trans i2
  obtain ⟨kU, u1, u2⟩ := al.2.2 _ _ e3
  have hB : Blank ST x D P.U := ⟨hD, ⟨knV, fun q hq => by rw [hq] at obV; cases obV⟩, by rw [al.findClass]; exact e2, kU, u1, by rw [u2]; exact i3, by rw [u2]; exact e5 i3⟩
  have F1 : Found ST "value" "[B" fV P.U := ⟨SBG.found_only al ⟨cfV, kV, iV, gV⟩, stV⟩
  have F2 : Found ST "coder" "B" fC P.U := ⟨SBG.found_only al ⟨cfC, kC, iC, gC⟩, stC⟩
  have hA : Ch b A P.U := ⟨⟨K.1, State.isArrayOf_alike al K.2.1, K.2.2, by omega⟩, hty⟩
  have hS : StaticIs P.U ST "COMPACT_STRINGS" "Z" (.int z) := by
    obtain ⟨cfS, iS, kS, fS, st, cS, t1, t2, t3, t4, t5, t6, t7⟩ := S
    exact StaticIs.there (s := { Z with heap := P.U.heap }) ⟨cfS, iS, kS, fS, st, cS, t1, t2, t3, t4, t5, (fun q => by rw [q] at t6; cases t6), t7⟩ al rfl
  obtain ⟨v, B, X', ⟨⟨hv, E', V', q1, q2, q3, q4, q5, q6, q7, q8, q9, q10, q11⟩, hl, hc, hs⟩, st⟩ := New1.pays x D fV fC b A z (tab_of (moved hZ hw)) hfr hlo m meth c P g ig mk _ X hg hsize hdg hW hn ⟨r1, r2, rfl, hB, F1, F2, hA, hS, hz, l0, l2, hp⟩
  have al' : Z.vm.Alike B.U.vm := hZ.alike.trans X'.warmed.alike
  have hsz : E'.slots.size = D.slots.size := by
    obtain ⟨-, -, -, kB, w1, w2, w3⟩ := q1
    obtain ⟨kB', y1, y2⟩ := al'.2.2 _ _ e3
    rw [q2.2.1] at w1
    cases w1.symm.trans y1
    rw [w3, e5 i3, y2]
  refine ⟨v, B, X', ⟨_, ⟨hv, ?_, ⟨by omega, fun y cy hy hn' => q10 y cy (by simpa using hn') hy, fun y cy hy => ?_⟩, q11, ⟨E', _, q1.1, by rw [q2.2.1]; exact e2, by rw [q2.2.1]; exact e3, by rw [q2.1]; exact obV, fun _ => by rw [hsz]; exact e5 i3⟩,
    ⟨E', cfV, kV, iV, fV, q1.1, gV, stV, by rw [q2.1]; exact knV, by rw [q2.1]; exact obV, by rw [q2.2.1]; exact asV, q3⟩, ⟨E', cfC, kC, iC, fC, q1.1, gC, stC, by rw [q2.1]; exact knV, by rw [q2.1]; exact obV, by rw [q2.2.1]; exact asC, q4⟩,
    ⟨V', ⟨q5.1, State.isArrayOf_alike al'.symm q5.2.1, q5.2.2.1⟩, q6, by rw [← al'.findClass]; exact q7, q8, fun j hj => by have := q9 j hj; rwa [Nat.zero_add] at this⟩, fun O n d w F n1 n2 => ?_⟩, hl, hc, hs⟩, st⟩
  · intro y hy
    simp only [List.mem_cons, List.not_mem_nil, or_false] at hy
    rcases hy with rfl | rfl <;> rfl
  · by_cases q : y = x
    · subst q
      cases hD.symm.trans hy
      exact ⟨E', q1.1, q2.2.1, q2.1, hsz⟩
    · exact ⟨cy, q10 y cy q hy, rfl, rfl, rfl⟩
  · obtain ⟨D3, cf, k, i, f, g1, g2, g3, g4, g5, g6, g7⟩ := F
    cases hD.symm.trans g1
    simp only [RoadKit.slotOf, g2, gV, gC, Option.map_some, Option.getD_some] at n1 n2
    exact ⟨E', cf, k, i, f, q1.1, g2, g3, by rw [q2.1]; exact g4, by rw [q2.1]; exact g5, by rw [q2.2.1]; exact g6, by rw [q2.2.2 f.slot (by simp [n1, n2])]; exact g7⟩
end StrChars.Road
namespace StrChars.Road
open Jvm Sem ClassFile Op Lib Jvm.Stand Jvm.Free Jvm.Free.XT
/-- WHAT COMES BACK, the byte[] as a list of values -/
def QA (Z : State) (x : Addr) (zn : Int32) (cs : List Int32) (h : Heap) (v : Option Value) (h' : Heap) (L : List Loc) : Prop := v = none ∧ (∀ y ∈ L, y.base = x) ∧ RoadKit.Keep h h' [x] ∧ h'.size = h.size + 1 ∧ RoadKit.Exa Z h' x ST ∧ RoadKit.Fld Z h' x ST "value" "[B" (.ref h.size) ∧ RoadKit.Fld Z h' x ST "coder" "B" (.int 0) ∧
  (∃ kb, Z.vm.findClass "[B" = some kb ∧ RoadKit.Arv Z h' h.size kb .byte zn (cs.map fun c => .int (lo8 c)) (.int 0)) ∧
  ∀ (O n d : String) (w : Value), RoadKit.Fld Z h x O n d w → RoadKit.slotOf Z O n d ≠ RoadKit.slotOf Z ST "value" "[B" → RoadKit.slotOf Z O n d ≠ RoadKit.slotOf Z ST "coder" "B" → RoadKit.Fld Z h' x O n d w
/-- **new String(chars) AT A CALL, THE ARRAYS AS LISTS**: the char[] at b holds cs, not empty, no char above 255 -/
theorem backArv {p : Program} {l : Launch} {e : Env} {R : Room} {s : State} {args : Array Value} {below : List Frame} {len W : Nat} {Z : State} {a0 : Array Value} {h : Heap} (hZ : Z.Warmed39 s.vm) (hw : ∀ d ∈ words, d.before a0 Z = true) {kI : Nat} (wi : (Jvm.Cond.instantiable ST kI).before a0 Z = true)
    {x b : Addr} {k : ClassId} {zn z : Int32} {cs : List Int32} {dv v0 c0 : Value} (E : RoadKit.Exa Z h x ST) (V : RoadKit.Fld Z h x ST "value" "[B" v0) (C : RoadKit.Fld Z h x ST "coder" "B" c0) (K : RoadKit.Arv Z h b k .char zn (cs.map Value.int) dv) (S : RoadKit.Sta Z h ST "COMPACT_STRINGS" "Z" (.int z)) (hz : ¬ z = 0)
    (hlen : zn.toNatClampNeg = cs.length) (h0 : 0 < cs.length) (hbig : cs.length ≤ 536870912) (hall : ∀ c ∈ cs, ¬ 255 < c) (hfr : 4 ≤ R.frames) (hlo : W + 65 ≤ R.locals) :
    Back l R p e below s args New1.yN len W (fun P a => a = #[.ref x, .ref b] ∧ P.U.heap = h ∧ P.cells + 1 ≤ R.cells ∧ P.slots + cs.length ≤ R.slots)
      (fun P _ v B => ∃ L, QA Z x zn cs h v B.U.heap L ∧ B.locs = P.locs ++ L ∧ B.cells = P.cells + 1 ∧ B.slots = P.slots + cs.length) := by
  obtain ⟨A, K1, K2, K3, K4, K5, K6⟩ := K
  have e : A.slots.size = cs.length := K3.trans hlen
  have hat : ∀ (i : Nat) (hi : i < cs.length), A.slots[i]? = some (.int cs[i]) := fun i hi => by rw [K5 i (by omega)]; simp [List.getD_eq_getElem?_getD, hi]
  have hcv : ∀ (i : Nat) (hi : i < cs.length), cv A i = cs[i] := fun i hi => by unfold cv; rw [hat i hi]
  have hty : Typed .char A := fun i v hv => by
    have hi : i < A.slots.size := (Array.getElem?_eq_some_iff.mp hv).1
    have q := K5 i hi
    rw [hv] at q
    rw [Option.some.inj q]
    exact K6 i hi
  refine Back.mono (back hZ hw wi E V C K1 hty S hz (by omega) (by omega) (fun i hi => by rw [hcv i (by omega)]; exact hall _ (List.getElem_mem _)) hfr hlo) (fun P a hp => ⟨hp.1, hp.2.1, hp.2.2.1, by rw [e]; exact hp.2.2.2⟩) (fun P a v B hp hq => ?_)
  obtain ⟨L, ⟨q1, q2, q3, q4, q5, q6, q7, ⟨V', v1, v2, v3, v4, v5⟩, q9⟩, hl, hc, hs⟩ := hq
  refine ⟨L, ⟨q1, q2, q3, q4, q5, q6, q7, ⟨V'.cls, v3, V', v1, rfl, by rw [v4, e, hlen], K4, fun i hi => ?_, fun i hi => ?_⟩, q9⟩, hl, hc, by rw [hs, e]⟩
  · have hi' : i < cs.length := by omega
    rw [v5 i (by omega), hcv i hi']; simp [List.getD_eq_getElem?_getD, hi']
  · have hi' : i < cs.length := by omega
    simp only [List.getD_eq_getElem?_getD, List.getElem?_map, List.getElem?_eq_getElem hi', Option.map_some, Option.getD_some]
    exact fits_lo8 _
end StrChars.Road
namespace StrChars.Road
open Jvm Sem ClassFile Op Lib Jvm.Stand Jvm.Free Jvm.Free.XT
/-- WHAT COMES BACK, in the writer's own shape -/
def QV (Z : State) (x : Addr) (N : Int32) (bs : List Int32) (h : Heap) (n0 : Nat) (v : Option Value) (h' : Heap) (L : List Loc) : Prop := v = none ∧ RoadKit.Fr n0 L ∧ RoadKit.Keep h h' [x] ∧ RoadKit.Exa Z h' x ST ∧ RoadKit.Fld Z h' x ST "coder" "B" (.int 0) ∧
  ∃ (t : Addr) (kb : ClassId), n0 ≤ t ∧ h.size ≤ t ∧ ¬ t = x ∧ RoadKit.Fld Z h' x ST "value" "[B" (.ref t) ∧ RoadKit.Arv Z h' t kb .byte N (bs.map Value.int) (.int 0)
/-- **new String(chars) AT A CALL, FOR THE WRITER**: a char[] of n known ints, each 0 to 255 -/
theorem backV {p : Program} {l : Launch} {e : Env} {R : Room} {s : State} {args : Array Value} {below : List Frame} {len W : Nat} {Z : State} {a0 : Array Value} {h : Heap} (hZ : Z.Warmed39 s.vm) (hw : ∀ d ∈ words, d.before a0 Z = true) {kI : Nat} (wi : (Jvm.Cond.instantiable ST kI).before a0 Z = true)
    {x b : Addr} {kC : ClassId} {cs bs : List Int32} {d v0 c0 : Value} {z N : Int32} {n n0 : Nat} (hx0 : n0 ≤ x) (hh0 : n0 ≤ h.size) (E : RoadKit.Exa Z h x ST) (V : RoadKit.Fld Z h x ST "value" "[B" v0) (C : RoadKit.Fld Z h x ST "coder" "B" c0) (K : RoadKit.Arv Z h b kC .char N (cs.map Value.int) d) (S : RoadKit.Sta Z h ST "COMPACT_STRINGS" "Z" (.int z)) (hz : ¬ z = 0)
    (hn : cs.length = n) (hN : N = Int32.ofNat n) (l0 : 0 < n) (l2 : n ≤ 4000) (hp : ∀ c ∈ cs, ¬ c < 0 ∧ ¬ (255 : Int32) < c) (hb : bs = cs.map (fun c => c.toInt8.toInt32)) (hfr : 4 ≤ R.frames) (hlo : W + 65 ≤ R.locals) :
    Back l R p e below s args (⟨"java/lang/String", "<init>", "([C)V"⟩ : MethodName) len W (fun P a => a = #[.ref x, .ref b] ∧ P.U.heap = h ∧ P.cells + 1 ≤ R.cells ∧ P.slots + n ≤ R.slots)
      (fun P _ v B => ∃ L, QV Z x N bs h n0 v B.U.heap L ∧ B.locs = P.locs ++ L ∧ B.cells = P.cells + 1 ∧ B.slots = P.slots + n) := by
  subst hn hN hb
  refine Back.mono (backArv hZ hw wi E V C K S hz (n32 (by omega)) l0 (by omega) (fun c hc => (hp c hc).2) hfr hlo) (fun P a hp => hp) (fun P a v B hp hq => ?_)
  obtain ⟨L, ⟨q1, q2, q3, q4, q5, q6, q7, ⟨kb, v1, v2⟩, q9⟩, hl, hc, hs⟩ := hq
  exact ⟨L, ⟨q1, fun y hy => by rw [q2 y hy]; exact hx0, q3, q5, q7, h.size, kb, hh0, Nat.le_refl _, Nat.ne_of_gt E.lt, q6, by rw [List.map_map]; exact v2⟩, hl, hc, hs⟩
end StrChars.Road
namespace StrChars
open Jvm Sem ClassFile Op Lib Jvm.Stand Jvm.Free.XT Jvm.Free.ALB Jvm.Free.JM Jvm.Free
open Jvm.Lib.Cold (StaticIs)
def hi8 (x : Int32) : Int32 := lo8 (x >>> ((8 : Int32) &&& 31))
end StrChars
namespace StrChars.Road
open Jvm Sem ClassFile Op Lib Jvm.Stand Jvm.Free Jvm.Free.XT
open Jvm.Lib.Cold (StaticIs)
/-- the bytes of the chars cs, low before high -/
def wideBytes : List Int32 → List Value
  | [] => []
  | c :: cs => .int (lo8 c) :: .int (hi8 c) :: wideBytes cs
/-- an array of N2 bytes vs codes the chars cs by the coder cd -/
def CodA (cs : List Int32) (cd N2 : Int32) (vs : List Value) : Prop := (cd = 0 ∧ N2 = Int32.ofNat cs.length ∧ vs = (cs.map fun c => Value.int (lo8 c)) ∧ ∀ c ∈ cs, ¬ 255 < c) ∨ (cd = 1 ∧ N2 = Int32.ofNat (2 * cs.length) ∧ vs = wideBytes cs ∧ ∃ c ∈ cs, 255 < c)
end StrChars.Road
namespace StrChars.Road
open Jvm Sem ClassFile Op Lib Jvm.Stand Jvm.Free Jvm.Free.XT
open Jvm.Lib.Cold (StaticIs)
/-- what backV says of its String, as the contracts of this text ask it: cs's low bytes, coder 0 -/
theorem codOf {cs : List Int32} {n : Nat} (hn : cs.length = n) (hb : ∀ c ∈ cs, ¬ 255 < c) : CodA cs 0 (Int32.ofNat n) ((cs.map lo8).map Value.int) := Or.inl ⟨rfl, by rw [hn], by simp [List.map_map, Function.comp_def], hb⟩
end StrChars.Road
end Jvm.Pilot.@@N@@
namespace Jvm.Pilot.@@N@@.W
open Jvm Jvm.ClassFile Sem Op Lib Jvm.Free Jvm.Stand Jvm.LawKit Jvm.RoadKit
/-- a String with the chars cs -/
def Str (Z : State) (h : Heap) (a : Addr) (cs : List Int32) : Prop :=
  ∃ (t : Addr) (kb : ClassId) (cd N2 : Int32) (vs : List Value), Exa Z h a "java/lang/String" ∧ Fld Z h a "java/lang/String" "value" "[B" (.ref t) ∧ Fld Z h a "java/lang/String" "coder" "B" (.int cd) ∧ Arv Z h t kb .byte N2 vs (.int 0) ∧ StrChars.Road.CodA cs cd N2 vs ∧ (∀ c ∈ cs, ¬ c < 0 ∧ ¬ (65535 : Int32) < c) ∧ cs.length ≤ 4000
theorem Str.ext {Z : State} {h h' : Heap} {a : Addr} {cs : List Int32} (F : Str Z h a cs) (E : Ext h h') : Str Z h' a cs := by
  obtain ⟨t, kb, cd, N2, vs, f1, f2, f3, f4, f5⟩ := F
  exact ⟨t, kb, cd, N2, vs, f1.ext E, f2.ext E, f3.ext E, f4.ext E, f5⟩
theorem Str.exa {Z : State} {h : Heap} {a : Addr} {cs : List Int32} (F : Str Z h a cs) : Exa Z h a "java/lang/String" := by
  obtain ⟨t, kb, cd, N2, vs, f1, -⟩ := F; exact f1
theorem up16 {cs : List Int32} (h : ∀ c ∈ cs, ¬ c < 0 ∧ ¬ (255 : Int32) < c) : ∀ c ∈ cs, ¬ c < 0 ∧ ¬ (65535 : Int32) < c := fun c hc => ⟨(h c hc).1, fun q => (h c hc).2 (by rw [Int32.lt_iff_toInt_lt] at q ⊢; have e1 : (65535 : Int32).toInt = 65535 := rfl; have e2 : (255 : Int32).toInt = 255 := rfl; omega)⟩
section Rules
variable {p : Program} {l : Launch} {e : Env} {R : Room} {s : State} {m : MethodId} {args : Array Value} {below : List Frame} {meth : Method} {c : Code} {Z : State} {a0 : Array Value} {own mn : String} {bytes : ByteArray} {maxL : Nat} {ret : Option FieldType} {n0 kc ks : Nat} {Q : Option Value → Heap → Prop} {h : Heap} {cells slots : Nat} {pc q : Nat} {L : Array Slot} {S : List Value}
/-- new String(char[]): 1 to 4,000 chars, each 0 to 255 -/
theorem Go.newStr (K : Cx Z own bytes maxL ret mn p s m meth c) (hq : pc + 3 = q) (hws : ∀ d ∈ StrChars.Road.words, d.before a0 Z = true) (wi : (Cond.instantiable "java/lang/String" 4).before a0 Z = true) {i : Nat} {bytes' : ByteArray} (w1 : (Cond.methodLink own i (⟨"java/lang/String", "<init>", "([C)V"⟩ : MethodName)).before a0 Z = true) (w2 : (Cond.instanceMethod (⟨"java/lang/String", "<init>", "([C)V"⟩ : MethodName)).before a0 Z = true) (w4 : (Cond.code (⟨"java/lang/String", "<init>", "([C)V"⟩ : MethodName) bytes' 2 none).before a0 Z = true)
    {x b : Addr} {kC : ClassId} {cs : List Int32} {d v0 c0 : Value} {z N : Int32} {n : Nat} (hx0 : n0 ≤ x) (hh0 : n0 ≤ h.size) (E : Exa Z h x "java/lang/String") (V : Fld Z h x "java/lang/String" "value" "[B" v0) (C : Fld Z h x "java/lang/String" "coder" "B" c0) (A : Arv Z h b kC .char N (cs.map Value.int) d) (Sa : Sta Z h "java/lang/String" "COMPACT_STRINGS" "Z" (.int z)) (hz : ¬ z = 0)
    (hn : cs.length = n) (hN : N = Int32.ofNat n) (l0 : 0 < n) (l2 : n ≤ 4000) (hp : ∀ c ∈ cs, ¬ c < 0 ∧ ¬ (255 : Int32) < c) (hd : decode bytes pc = .ok (.invokespecial i, 3)) (hfr : 4 ≤ R.frames) {W cells' slots' : Nat} (hsz : L.size = maxL) (hW : (S.map fun v => v.category).sum ≤ W) (hlo : W + 65 ≤ R.locals) (hc : cells + 1 = cells') (hs : slots + n = slots') (hc' : cells' ≤ R.cells) (hs' : slots' ≤ R.slots)
    (r : ∀ h', Keep h h' [x] → Str Z h' x cs → Go p l e R s m args below meth c n0 kc ks Q h' cells' slots' (mkF m q L S)) : Go p l e R s m args below meth c n0 kc ks Q h cells slots (mkF m pc L (.ref b :: .ref x :: S)) :=
  Go.bI K hq rfl w1 w2 w4 (by decide) (StrChars.Road.backV (W := W) K.2.1 hws (kI := 4) wi (cs := cs) (bs := cs.map (fun c => c.toInt8.toInt32)) (n := n) hx0 hh0 E V C A Sa hz hn hN l0 l2 hp rfl hfr hlo) (sig := ⟨[.array .char], none⟩) (by decide +kernel) (a := x) (argsL := [.ref b]) (rest := S) rfl rfl rfl hsz hW hd hc hs hc' hs'
    (fun v h' L' hQ => by
      obtain ⟨rfl, N', KK, g1, g2, t, kb, u1, u2, u3, g3, g4⟩ := hQ
      refine ⟨N', r h' KK ⟨t, kb, 0, N, _, g1, g3, g2, g4, ?_, up16 hp, by omega⟩⟩
      subst hN
      exact StrChars.Road.codOf hn (fun c hc => (hp c hc).2))
end Rules
end Jvm.Pilot.@@N@@.W
namespace Jvm.Pilot.@@N@@
open Jvm Jvm.ClassFile Sem Op Lib Jvm.Free Jvm.Stand Jvm.LawKit Jvm.RoadKit Bundle Jvm.Pilot.@@N@@.W Jvm.Pilot.@@N@@.Jvm.D
theorem d7_0 : decode prog_18_method_2_code 0 = .ok (.iload_n 0, 1) := by decide +kernel
theorem d7_1 : decode prog_18_method_2_code 1 = .ok (.ifCond .lt 10, 3) := by decide +kernel
theorem d7_4 : decode prog_18_method_2_code 4 = .ok (.iload_n 0, 1) := by decide +kernel
theorem d7_5 : decode prog_18_method_2_code 5 = .ok (.sipush 150, 3) := by decide +kernel
theorem d7_8 : decode prog_18_method_2_code 8 = .ok (.if_icmp .le 18, 3) := by decide +kernel
theorem d7_26 : decode prog_18_method_2_code 26 = .ok (.return_, 1) := by decide +kernel
theorem pd0 : parseMethodDescriptor "(ILjava/lang/String;)V" = some ⟨[.int, (.object "java/lang/String")], none⟩ := by decide +kernel
theorem pn0 : plainFor (⟨"com/example/overplan/overplan/model/Age", "require", "(ILjava/lang/String;)V"⟩ : MethodName) = true := plainFor_of_name (by first | (simp [plainName, overriddenIn]; done) | decide +kernel)
theorem pn1 : plainFor (⟨"com/example/overplan/overplan/model/AgeRequirePinLaw", "law", "(II)Z"⟩ : MethodName) = true := plainFor_of_name (by first | (simp [plainName, overriddenIn]; done) | decide +kernel)
theorem own_c8 (x : Int32) : ¬ nar .char ((x &&& (255 : Int32)).toUInt32.toUInt16.toUInt32.toInt32) < 0 ∧ ¬ (255 : Int32) < nar .char ((x &&& (255 : Int32)).toUInt32.toUInt16.toUInt32.toInt32) := by
  have t : ∀ k : Fin 256, ¬ nar .char ((Int32.ofNat k.val).toUInt32.toUInt16.toUInt32.toInt32) < 0 ∧ ¬ (255 : Int32) < nar .char ((Int32.ofNat k.val).toUInt32.toUInt16.toUInt32.toInt32) := by decide +kernel
  have h : (x &&& 255).toBitVec.toNat < 256 := by
    simp only [Int32.toBitVec_and, BitVec.toNat_and]
    exact Nat.lt_succ_of_le Nat.and_le_right
  have e : (x &&& 255) = Int32.ofNat (x &&& 255).toBitVec.toNat := by
    apply Int32.toBitVec_inj.mp
    show _ = BitVec.ofNat 32 _
    rw [BitVec.ofNat_toNat]; simp
  rw [e]
  exact t ⟨_, h⟩
theorem own_age (a v : Int32) (e : (a &&& (2147483647 : Int32)) % (151 : Int32) = v) : ¬ v < (0 : Int32) ∧ ¬ (150 : Int32) < v := by
  subst e
  obtain ⟨h1, h2⟩ := c_and a (2147483647 : Int32) (by decide)
  have h3 := (c_irem (a &&& (2147483647 : Int32)) (151 : Int32) 151 rfl).1 h1
  simp only [Int32.lt_iff_toInt_lt]
  have e1 : (0 : Int32).toInt = 0 := rfl
  have e2 : (150 : Int32).toInt = 150 := rfl
  omega
set_option maxRecDepth 65536 in
set_option maxHeartbeats 40000000 in
theorem c_req (l : Launch) (Z : State) (a0 : Array Value) (hw : ∀ d ∈ tables_1, d.before a0 Z = true) (n0 : Nat) (h : Heap) (Z0 : n0 ≤ h.size) (x : Int32) (t : Addr) (h1 : ¬ x < (0 : Int32)) (h2 : ¬ (150 : Int32) < x) :
    Ctr l Z n0 (⟨"com/example/overplan/overplan/model/Age", "require", "(ILjava/lang/String;)V"⟩ : MethodName) prog_18_method_2_code 2 none [] ({ frames := 0, cells := 0, slots := 0, locals := 0 } : Room) #[(.int x), (.ref t)] h (fun v h' => v = none ∧ h = h') := by
  refine Ctr.body pn0 ?_
  intro p e s m below meth c K
  refine Go.entry (f' := (mkF m 0 #[.val (.int x), .val (.ref t)] [])) (by first | (simp [entryFrame, mkF, argsToLocals, Value.category]; done) | rfl) ?_
  refine Go.iloadN K (q := 1) rfl d7_0 rfl ?_
  refine Go.ifN K (q := 4) rfl d7_1 (show ¬ x < (0 : Int32) from h1) ?_
  refine Go.iloadN K (q := 5) rfl d7_4 rfl ?_
  refine Go.sipush K (q := 8) rfl (v := (150 : Int32)) (by decide) d7_5 ?_
  refine Go.icmpY K (q := 26) (by decide) (by decide) d7_8 (show ¬ (150 : Int32) < x from h2) ?_
  exact Go.retV K d7_26 (by decide) (by decide) (⟨rfl, rfl⟩)
set_option maxRecDepth 65536 in
set_option maxHeartbeats 40000000 in
theorem rm0 (l : Launch) (Z : State) (a0 : Array Value) (hw : ∀ d ∈ tables_1, d.before a0 Z = true) (ws : List Jvm.Cond) (n0 : Nat) (h : Heap) (Z0 : n0 ≤ h.size) (a b z : Int32) (Sa : Sta Z h "java/lang/String" "COMPACT_STRINGS" "Z" (.int z)) (hz : ¬ z = 0) :
    Ctr l Z n0 x code maxLocals ret ws room_1 #[(.int a), (.int b)] h (fun v h' => v = some (.int 1)) := by
  refine Ctr.body pn1 ?_
  intro p e s m below meth c K
  have own_words : ∀ d ∈ StrChars.Road.words, d.before a0 Z = true := fun d hd => hw d ((by decide +kernel : ∀ d ∈ StrChars.Road.words, d ∈ tables_1) d hd)
  refine Go.entry (f' := (mkF m 0 #[.val (.int a), .val (.int b), .unset, .unset, .unset, .unset] [])) (by first | (simp [entryFrame, mkF, argsToLocals, Value.category, maxLocals]; done) | rfl) ?_
  have E0 := Ext.refl h
  refine Go.iloadN K (q := 1) rfl at_0 rfl ?_
  refine Go.ldcInt K (q := 3) rfl (v := (2147483647 : Int32)) (hw _ (List.mem_of_getElem? (i := 0) rfl)) at_1 ?_
  refine Go.iand K (q := 4) rfl at_3 ?_
  refine Go.sipush K (q := 7) rfl (v := (151 : Int32)) (by decide) at_4 ?_
  refine Go.irem K (q := 8) rfl at_7 (by decide) ?_
  generalize eage1 : ((a &&& (2147483647 : Int32)) % (151 : Int32)) = age1
  refine Go.istoreN K (q := 9) rfl (L' := #[.val (.int a), .val (.int b), .val (.int age1), .unset, .unset, .unset]) at_8 rfl ?_
  refine Go.iloadN K (q := 10) rfl at_9 rfl ?_
  refine Go.sipush K (q := 13) rfl (v := (255 : Int32)) (by decide) at_10 ?_
  refine Go.iand K (q := 14) rfl at_13 ?_
  refine Go.i2c K (q := 15) rfl at_14 ?_
  generalize ec2 : (b &&& (255 : Int32)).toUInt32.toUInt16.toUInt32.toInt32 = c2
  refine Go.istoreN K (q := 16) rfl (L' := #[.val (.int a), .val (.int b), .val (.int age1), .val (.int c2), .unset, .unset]) at_15 rfl ?_
  refine Go.iloadN K (q := 17) rfl at_16 rfl ?_
  refine Go.bipush K (q := 19) rfl (v := (8 : Int32)) (by decide) at_17 ?_
  refine Go.iushr K (q := 20) rfl at_19 ?_
  refine Go.sipush K (q := 23) rfl (v := (255 : Int32)) (by decide) at_20 ?_
  refine Go.iand K (q := 24) rfl at_23 ?_
  refine Go.i2c K (q := 25) rfl at_24 ?_
  generalize ec3 : (((b.toUInt32 >>> ((8 : Int32) &&& 31).toUInt32).toInt32) &&& (255 : Int32)).toUInt32.toUInt16.toUInt32.toInt32 = c3
  refine Go.istore K (q := 27) rfl (L' := #[.val (.int a), .val (.int b), .val (.int age1), .val (.int c2), .val (.int c3), .unset]) at_25 rfl ?_
  refine Go.new K (q := 30) rfl (hw _ (List.mem_of_getElem? (i := 1) rfl)) (hw _ (List.mem_of_getElem? (i := 2) rfl)) (hw _ (List.mem_of_getElem? (i := 3) rfl)) at_27 (cells' := 1) (slots' := 4) rfl rfl (by decide) (by decide) ?_
  intro h5 a4 g_a4 N_a4 X_a4 D_a4
  have ge_E0_a4 : h.size ≤ a4 := Nat.le_trans E0.1 (Nat.le_of_eq g_a4.symm)
  have E0 := Ext.trans E0 N_a4
  have Fv_a4 : Fld Z h5 a4 "java/lang/String" "value" "[B" .null := D_a4 (Or.inr (hw _ (List.mem_of_getElem? (i := 30) rfl))) (ty := .array .byte) (by decide)
  have Fc_a4 : Fld Z h5 a4 "java/lang/String" "coder" "B" (.int (0 : Int32)) := D_a4 (Or.inr (hw _ (List.mem_of_getElem? (i := 28) rfl))) (ty := .byte) (by decide)
  have n_a4 : n0 ≤ a4 := (Nat.le_trans Z0 ge_E0_a4)
  refine Go.dup K (q := 31) rfl at_30 rfl ?_
  refine Go.iconst K (q := 32) rfl (v := (2 : Int32)) (by decide) at_31 ?_
  refine Go.newarr K (q := 34) rfl (hw _ (List.mem_of_getElem? (i := 4) rfl)) at_32 (by decide) (cap := 2) (by decide) (by decide) (cells' := 2) (slots' := 6) rfl rfl (by decide) (by decide) ?_
  intro h7 a6 k_a6 g_a6 N_a6 V_a6
  have V_a6 : Arv Z h7 a6 k_a6 .char (2 : Int32) [(.int (0 : Int32)), (.int (0 : Int32))] (.int (0 : Int32)) := V_a6
  have ge_E0_a6 : h.size ≤ a6 := Nat.le_trans E0.1 (Nat.le_of_eq g_a6.symm)
  have E0 := Ext.trans E0 N_a6
  have ne_a4 : a4 ≠ a6 := Nat.ne_of_lt (Nat.lt_of_lt_of_le X_a4.lt (Nat.le_of_eq g_a6.symm))
  have n_a6 : n0 ≤ a6 := (Nat.le_trans Z0 ge_E0_a6)
  have X_a4 := X_a4.ext N_a6
  have Fv_a4 := Fv_a4.ext N_a6
  have Fc_a4 := Fc_a4.ext N_a6
  refine Go.dup K (q := 35) rfl at_34 rfl ?_
  refine Go.iconst K (q := 36) rfl (v := (0 : Int32)) (by decide) at_35 ?_
  refine Go.iloadN K (q := 37) rfl at_36 rfl ?_
  refine Go.castore K (q := 38) rfl V_a6 (i := 0) at_37 ⟨by decide, by decide⟩ rfl (Nat.le_of_ble_eq_true rfl) n_a6 ?_
  intro h8 W9 V_a6
  have E0 := Ext.wr E0 W9 ge_E0_a6
  have X_a4 := X_a4.wr W9
  have Fv_a4 := Fv_a4.other W9 (Or.inl ne_a4)
  have Fc_a4 := Fc_a4.other W9 (Or.inl ne_a4)
  refine Go.dup K (q := 39) rfl at_38 rfl ?_
  refine Go.iconst K (q := 40) rfl (v := (1 : Int32)) (by decide) at_39 ?_
  refine Go.iload K (q := 42) rfl at_40 rfl ?_
  refine Go.castore K (q := 43) rfl V_a6 (i := 1) at_42 ⟨by decide, by decide⟩ rfl (Nat.le_of_ble_eq_true rfl) n_a6 ?_
  intro h10 W11 V_a6
  have E0 := Ext.wr E0 W11 ge_E0_a6
  have X_a4 := X_a4.wr W11
  have Fv_a4 := Fv_a4.other W11 (Or.inl ne_a4)
  have Fc_a4 := Fc_a4.other W11 (Or.inl ne_a4)
  have hp12 : ∀ c ∈ ([(nar .char c2), (nar .char c3)] : List Int32), ¬ c < 0 ∧ ¬ (255 : Int32) < c := by
    intro c hc
    simp only [List.mem_cons, List.not_mem_nil, or_false] at hc
    rcases hc with rfl | rfl
    · rw [← ec2]; exact (own_c8 _)
    · rw [← ec3]; exact (own_c8 _)
  have V_a6 : Arv Z h10 a6 k_a6 .char (2 : Int32) (([(nar .char c2), (nar .char c3)] : List Int32).map Value.int) (.int (0 : Int32)) := V_a6
  refine Go.newStr K (q := 46) rfl own_words (hw _ (List.mem_of_getElem? (i := 2) rfl)) (hw _ (List.mem_of_getElem? (i := 5) rfl)) (hw _ (List.mem_of_getElem? (i := 6) rfl)) (hw _ (List.mem_of_getElem? (i := 7) rfl)) (cs := [(nar .char c2), (nar .char c3)]) n_a4 (Nat.le_trans Z0 E0.1) X_a4 Fv_a4 Fc_a4 V_a6 (Sa.ext E0) hz (n := 2) rfl rfl (by decide) (by decide) hp12 at_43 (by decide) rfl (W := 1) (Nat.le_of_eq rfl) (by decide) (cells' := 3) (slots' := 8) rfl rfl (by decide) (by decide) ?_
  intro h13 K14 S_a4
  have E0 := Ext.keep E0 K14 (allS ge_E0_a4 all0)
  refine Go.astore K (q := 48) rfl (L' := #[.val (.int a), .val (.int b), .val (.int age1), .val (.int c2), .val (.int c3), .val (.ref a4)]) at_46 rfl rfl ?_
  refine Go.iloadN K (q := 49) rfl at_48 rfl ?_
  refine Go.aload K (q := 51) rfl at_49 rfl rfl ?_
  show Go p l e _ s m _ below meth c _ _ _ _ h13 3 8 (mkF m 51 #[.val (.int a), .val (.int b), .val (.int age1), .val (.int c2), .val (.int c3), .val (.ref a4)] [(.ref a4), (.int age1)])
  refine Go.cS K (q := 54) rfl (y := (⟨"com/example/overplan/overplan/model/Age", "require", "(ILjava/lang/String;)V"⟩ : MethodName)) (c_req l Z a0 hw n0 h13 (Nat.le_trans Z0 E0.1) age1 a4 (own_age _ _ eage1).1 (own_age _ _ eage1).2) (hw _ (List.mem_of_getElem? (i := 31) rfl)) (hw _ (List.mem_of_getElem? (i := 32) rfl)) (hw _ (List.mem_of_getElem? (i := 33) rfl)) (hw _ (List.mem_of_getElem? (i := 34) rfl)) (by decide) pd0 (argsL := [(.int age1), (.ref a4)]) (rest := []) rfl rfl rfl rfl (W := 0) (Nat.le_of_eq rfl) (by decide) (by decide) at_51 (cells' := 3) (slots' := 8) rfl rfl (by decide) (by decide) ?_
  intro r16 h15 hQ
  obtain ⟨rfl, rfl⟩ := hQ
  show Go p l e _ s m _ below meth c _ _ _ _ h13 3 8 (mkF m 54 #[.val (.int a), .val (.int b), .val (.int age1), .val (.int c2), .val (.int c3), .val (.ref a4)] [])
  refine Go.iconst K (q := 55) rfl (v := (0 : Int32)) (by decide) at_54 ?_
  refine Go.aload K (q := 57) rfl at_55 rfl rfl ?_
  refine Go.cS K (q := 60) rfl (y := (⟨"com/example/overplan/overplan/model/Age", "require", "(ILjava/lang/String;)V"⟩ : MethodName)) (c_req l Z a0 hw n0 h13 (Nat.le_trans Z0 E0.1) (0 : Int32) a4 (by decide) (by decide)) (hw _ (List.mem_of_getElem? (i := 31) rfl)) (hw _ (List.mem_of_getElem? (i := 32) rfl)) (hw _ (List.mem_of_getElem? (i := 33) rfl)) (hw _ (List.mem_of_getElem? (i := 34) rfl)) (by decide) pd0 (argsL := [(.int (0 : Int32)), (.ref a4)]) (rest := []) rfl rfl rfl rfl (W := 0) (Nat.le_of_eq rfl) (by decide) (by decide) at_57 (cells' := 3) (slots' := 8) rfl rfl (by decide) (by decide) ?_
  intro r18 h17 hQ
  obtain ⟨rfl, rfl⟩ := hQ
  show Go p l e _ s m _ below meth c _ _ _ _ h13 3 8 (mkF m 60 #[.val (.int a), .val (.int b), .val (.int age1), .val (.int c2), .val (.int c3), .val (.ref a4)] [])
  refine Go.sipush K (q := 63) rfl (v := (150 : Int32)) (by decide) at_60 ?_
  refine Go.aload K (q := 65) rfl at_63 rfl rfl ?_
  refine Go.cS K (q := 68) rfl (y := (⟨"com/example/overplan/overplan/model/Age", "require", "(ILjava/lang/String;)V"⟩ : MethodName)) (c_req l Z a0 hw n0 h13 (Nat.le_trans Z0 E0.1) (150 : Int32) a4 (by decide) (by decide)) (hw _ (List.mem_of_getElem? (i := 31) rfl)) (hw _ (List.mem_of_getElem? (i := 32) rfl)) (hw _ (List.mem_of_getElem? (i := 33) rfl)) (hw _ (List.mem_of_getElem? (i := 34) rfl)) (by decide) pd0 (argsL := [(.int (150 : Int32)), (.ref a4)]) (rest := []) rfl rfl rfl rfl (W := 0) (Nat.le_of_eq rfl) (by decide) (by decide) at_65 (cells' := 3) (slots' := 8) rfl rfl (by decide) (by decide) ?_
  intro r20 h19 hQ
  obtain ⟨rfl, rfl⟩ := hQ
  show Go p l e _ s m _ below meth c _ _ _ _ h13 3 8 (mkF m 68 #[.val (.int a), .val (.int b), .val (.int age1), .val (.int c2), .val (.int c3), .val (.ref a4)] [])
  refine Go.iconst K (q := 69) rfl (v := (1 : Int32)) (by decide) at_68 ?_
  exact Go.retN K (by simp) at_69 (by decide) (by decide) (rfl)
set_option maxRecDepth 65536 in
set_option maxHeartbeats 40000000 in
theorem comes_1 {Post : Tables → Env → Array Value → State → Outcome → State → Prop} (hpost : ∀ tb e args s v u, (limb_1_1.after args s (.returned v) u = true ∧ limb_1_2.after args s (.returned v) u = true ∧ True) → FrameEnd s (.returned v) u (Jvm.fieldLocs frame_1_writes args s ++ Jvm.arrayLocs frame_1_arrays args s ++ Jvm.staticLocs frame_1_statics s) 16 128 → Post tb e args s (.returned v) u) :
    ArmFor flags0 classFile x code maxLocals ret World_1 tables_1 room_1 Calls_1 rest_1 Pre_1 Post := by
  intro l hfl _ _ p e ha hc hk s m args below hf hA hF happ hP
  obtain ⟨hcalls, hrest, hpre⟩ := hP
  obtain ⟨-, -, -, hnamed, -, -, -, hat⟩ := (Spec.applies_iff hf).mp happ
  obtain ⟨hg, hn⟩ := and_e (Cond.before_iff.mp (show (Jvm.Cond.and given_1 narrow_1).before args s = true from hpre))
  obtain ⟨h1, k0⟩ := and_e hg
  obtain ⟨g0, k1⟩ := and_e k0
  obtain ⟨w0, w1, rfl⟩ : ∃ w0 w1 : Value, args = #[w0, w1] := by
    have hs : args.size = 2 := by simpa [Cond.value, given_1] using h1
    obtain ⟨L⟩ := args
    match L, hs with
    | [w0, w1], _ => exact ⟨w0, w1, rfl⟩
  have hw := fun d (hd : d ∈ tables_1) => atoms_spec (ws := Jvm.Cond.code x code maxLocals ret :: tables_1) hat d (List.mem_cons_of_mem _ hd)
  obtain ⟨hsets, hown0⟩ := atoms_of _ (rest_1_c_eq ▸ (show rest_1_c.before _ s = true from hrest))
  have hfit : Fit s := fun {y c} hc i hi => by
    obtain ⟨ha, rfl⟩ := Array.getElem?_eq_some_iff.mp hc
    have q := List.all_eq_true.mp ((Array.all_eq_true_iff_forall_mem.mp hF) _ (Array.getElem_mem ha)) i (List.mem_range.mpr hi)
    simpa [Array.getElem?_eq_getElem hi] using q
  obtain ⟨i0, q0⟩ := is_v g0
  obtain rfl : w0 = (.int i0) := Option.some.inj q0
  obtain ⟨i1, q1⟩ := is_v k1
  obtain rfl : w1 = (.int i1) := Option.some.inj q1
  have n5 := not_v (Cond.before_iff.mp (hsets _ (List.mem_of_getElem? (i := 2) rfl)))
  obtain ⟨zs, ez⟩ := is_v (Cond.before_iff.mp (hsets _ (List.mem_of_getElem? (i := 1) rfl)))
  have Sa : Sta s s.heap "java/lang/String" "COMPACT_STRINGS" "Z" (.int zs) := Sta.start ez (Or.inl (hsets _ (List.mem_of_getElem? (i := 0) rfl)))
  have hz : ¬ (zs = (0 : Int32)) := gotF (Cond.eq_ints ez (Term.int_eval (0))) n5
  obtain ⟨n, o, h1, h2, h3, _, L, rfl, ⟨rfl, N⟩, hq⟩ := rm0 l s _ hw tables_1 s.heap.size s.heap (Nat.le_refl _) i0 i1 zs Sa hz p e ha hc hk s m _ below hf ((Spec.applies_iff_loose hf).mp happ).1 ⟨rfl, State.Warmed39.refl s, rfl⟩ trivial
  refine ⟨n, _, h1, h2, h3, hpost _ _ _ _ _ _ ⟨Cond.after_iff.mpr rfl, Cond.after_iff.mpr (eq_i res_at (Term.int_eval (1)) rfl), trivial⟩ ⟨hq.1, hq.2.1, (hq.2.2.sift fun y hy => Or.inr (N y hy)).mono (by decide) (by decide)⟩⟩
theorem main_1_1 : Claimed_1_1 := comes_1 fun _ _ _ _ _ _ h hF => ⟨h.1, hF⟩
theorem main_1_2 : Claimed_1_2 := comes_1 fun _ _ _ _ _ _ h hF => ⟨h.2.1, hF⟩
end Jvm.Pilot.@@N@@
namespace Jvm.Pilot.@@N@@
open Jvm Jvm.ClassFile Sem Op Lib Jvm.Free Jvm.Stand Jvm.Pilot.@@N@@.Jvm.D
/-! MADE BY PROGRAM (witnessworld.py) out of the Statement's table words and the real class files: 20 classes; the members and pool entries that the words name. The judged class is class 1, her method 1. -/
namespace start1
open Jvm.ClassFile
def u (s : String) : CpInfo := .utf8 (stringToUtf16 s)
/-- a pool by its gaps: so many unusable entries, then the entry; so many at the end -/
def gap : Nat → List CpInfo → List CpInfo
  | 0, r => r
  | n + 1, r => .unusable :: gap n r
def poolList (es : List (Nat × CpInfo)) (last : Nat) : List CpInfo := es.foldr (fun e r => gap e.1 (e.2 :: r)) (gap last [])
def pool (es : List (Nat × CpInfo)) (last : Nat) : Array CpInfo := ⟨poolList es last⟩
def fileOf (pool : Array CpInfo) (this : Nat) (attrs : Array Attribute := #[]) (ms : Array MethodInfo := #[]) (fl : Nat := 33) (sup : Nat := 0) (ifs : Array Nat := #[]) (fds : Array FieldInfo := #[]) : ClassFile where
  minorVersion := 0
  majorVersion := 65
  constantPool := pool
  accessFlags := fl
  thisClass := this
  superClass := sup
  interfaces := ifs
  fields := fds
  methods := ms
  attributes := attrs
def plain (name : String) (sup : Option ClassId) : Class where
  name := name
  kind := .ordinary
  loader := none
  accessFlags := 33
  super := sup
  interfaces := #[]
  cf := none
  fields := #[]
  methods := #[]
  instanceTypes := #[]
  staticTypes := #[]
  resolved := #[]
  callSites := []
  init := .initialized
  statics := none
  mirror := none

def pool0 : Array CpInfo := pool [(5, u "<init>"), (0, u "()V"), (1, .class_ 10), (1, u "java/lang/Object")] 113

def k0c0 : Code := { maxStack := 0, maxLocals := 1, code := object_method_1_code, exceptionTable := #[], attributes := #[] }
def k0m0 : Method := { name := "<init>", desc := "()V", sig := { parameters := [], returnType := none }, accessFlags := 1, code := some k0c0 }
/-- java/lang/Object -/
def k0 : Class := { plain "java/lang/Object" none with
  accessFlags := 33
  interfaces := #[]
  cf := some (fileOf pool0 8 #[] #[{ accessFlags := 1, nameIndex := 5, descriptorIndex := 6, attributes := #[] }] 33 0 #[] #[])
  fields := #[]
  methods := #[k0m0]
  instanceTypes := #[]
  staticTypes := #[]
  resolved := Array.replicate 124 none
  statics := none }

def pool1 : Array CpInfo := pool [(2, .class_ 4), (1, u "java/lang/Object"), (0, u "<init>"), (0, u "()V"), (0, .integer 2147483647), (0, .class_ 9), (0, u "java/lang/String"), (0, .methodref 8 11), (0, .nameAndType 5 12), (0, u "([C)V"), (0, .methodref 14 15), (0, .class_ 16), (0, .nameAndType 17 18), (0, u "com/example/overplan/overplan/model/Age"), (0, u "require"), (0, u "(ILjava/lang/String;)V"), (0, .class_ 20), (0, u "com/example/overplan/overplan/model/AgeRequirePinLaw"), (2, u "law"), (0, u "(II)Z")] 2

def k1m0 : Method := { name := "<init>", desc := "()V", sig := { parameters := [], returnType := none }, accessFlags := 2, code := none }
def k1c1 : Code := { maxStack := 6, maxLocals := 6, code := code, exceptionTable := #[], attributes := #[] }
def k1m1 : Method := { name := "law", desc := "(II)Z", sig := { parameters := [.int, .int], returnType := some .boolean }, accessFlags := 9, code := some k1c1 }
/-- com/example/overplan/overplan/model/AgeRequirePinLaw -/
def k1 : Class := { plain "com/example/overplan/overplan/model/AgeRequirePinLaw" (some 0) with
  accessFlags := 49
  interfaces := #[]
  cf := some (fileOf pool1 19 #[] #[{ accessFlags := 2, nameIndex := 5, descriptorIndex := 6, attributes := #[] }, { accessFlags := 9, nameIndex := 23, descriptorIndex := 24, attributes := #[] }] 49 2 #[] #[])
  fields := #[]
  methods := #[k1m0, k1m1]
  instanceTypes := #[]
  staticTypes := #[]
  resolved := Array.replicate 27 none
  statics := none }

def pool2 : Array CpInfo := pool [(1, .class_ 2), (0, u "java/io/Serializable"), (0, .class_ 4), (0, u "java/lang/Object")] 2

/-- java/io/Serializable -/
def k2 : Class := { plain "java/io/Serializable" (some 0) with
  accessFlags := 1537
  interfaces := #[]
  cf := some (fileOf pool2 1 #[] #[] 1537 3 #[] #[])
  fields := #[]
  methods := #[]
  instanceTypes := #[]
  staticTypes := #[]
  resolved := Array.replicate 7 none
  statics := none }

def pool3 : Array CpInfo := pool [(1, .class_ 2), (0, u "java/lang/Comparable"), (0, .class_ 4), (0, u "java/lang/Object")] 7

/-- java/lang/Comparable -/
def k3 : Class := { plain "java/lang/Comparable" (some 0) with
  accessFlags := 1537
  interfaces := #[]
  cf := some (fileOf pool3 1 #[] #[] 1537 3 #[] #[])
  fields := #[]
  methods := #[]
  instanceTypes := #[]
  staticTypes := #[]
  resolved := Array.replicate 12 none
  statics := none }

def pool4 : Array CpInfo := pool [(2, .class_ 4), (1, u "java/lang/CharSequence"), (42, .class_ 48), (0, u "java/lang/CharSequence$1CodePointIterator"), (10, .class_ 60), (0, u "java/lang/CharSequence$1CharIterator"), (5, .class_ 67), (0, u "java/lang/Object")] 63

/-- java/lang/CharSequence -/
def k4 : Class := { plain "java/lang/CharSequence" (some 0) with
  accessFlags := 1537
  interfaces := #[]
  cf := some (fileOf pool4 2 #[.nestMembers #[47, 59]] #[] 1537 66 #[] #[])
  fields := #[]
  methods := #[]
  instanceTypes := #[]
  staticTypes := #[]
  resolved := Array.replicate 131 none
  statics := none }

def pool5 : Array CpInfo := pool [(1, .class_ 2), (0, u "java/lang/constant/Constable"), (0, .class_ 4), (0, u "java/lang/Object")] 6

/-- java/lang/constant/Constable -/
def k5 : Class := { plain "java/lang/constant/Constable" (some 0) with
  accessFlags := 1537
  interfaces := #[]
  cf := some (fileOf pool5 1 #[] #[] 1537 3 #[] #[])
  fields := #[]
  methods := #[]
  instanceTypes := #[]
  staticTypes := #[]
  resolved := Array.replicate 11 none
  statics := none }

def pool6 : Array CpInfo := pool [(1, .class_ 2), (0, u "java/lang/constant/ConstantDesc"), (0, .class_ 4), (0, u "java/lang/Object")] 32

/-- java/lang/constant/ConstantDesc -/
def k6 : Class := { plain "java/lang/constant/ConstantDesc" (some 0) with
  accessFlags := 1537
  interfaces := #[]
  cf := some (fileOf pool6 1 #[] #[] 1537 3 #[] #[])
  fields := #[]
  methods := #[]
  instanceTypes := #[]
  staticTypes := #[]
  resolved := Array.replicate 37 none
  statics := none }

def pool7 : Array CpInfo := pool [(1, .methodref 2 3), (0, .class_ 4), (0, .nameAndType 5 6), (0, u "java/lang/Object"), (0, u "<init>"), (0, u "()V"), (2, .fieldref 10 11), (0, .class_ 12), (0, .nameAndType 13 14), (0, u "java/lang/String"), (0, u "value"), (0, u "[B"), (0, .fieldref 10 16), (0, .nameAndType 17 18), (0, u "coder"), (0, u "B"), (2, u "hash"), (0, u "I"), (2, u "hashIsZero"), (0, u "Z"), (0, .methodref 10 28), (0, .nameAndType 5 29), (0, u "([CIILjava/lang/Void;)V"), (8, .fieldref 10 39), (0, .nameAndType 40 26), (0, u "COMPACT_STRINGS"), (1, .class_ 44), (1, u "java/lang/StringUTF16"), (0, u "compress"), (1, .methodref 42 48), (0, .nameAndType 49 50), (0, u "coderFromArrayLen"), (0, u "([BI)B"), (126, .methodref 42 178), (0, .nameAndType 45 179), (0, u "([CII)[B"), (395, .class_ 576), (0, u "java/lang/CharSequence"), (22, u "CASE_INSENSITIVE_ORDER"), (0, u "Ljava/util/Comparator;"), (409, u "([C)V"), (90, u "serialPersistentFields"), (0, u "[Ljava/io/ObjectStreamField;"), (0, .class_ 1104), (0, u "java/lang/String$CaseInsensitiveComparator"), (1, .class_ 1107), (0, u "java/io/Serializable"), (0, .class_ 1109), (0, u "java/lang/Comparable"), (0, .class_ 1111), (0, u "java/lang/constant/Constable"), (0, .class_ 1113), (0, u "java/lang/constant/ConstantDesc"), (2, u "serialVersionUID"), (0, u "J"), (3, u "REPL"), (0, u "C"), (2, u "LATIN1"), (1, u "UTF16")] 323

def k7m0 : Method := { name := "<init>", desc := "()V", sig := { parameters := [], returnType := none }, accessFlags := 1, code := none }
def k7c1 : Code := { maxStack := 5, maxLocals := 2, code := jdk_42_method_3_code, exceptionTable := #[], attributes := #[] }
def k7m1 : Method := { name := "<init>", desc := "([C)V", sig := { parameters := [(.array .char)], returnType := none }, accessFlags := 1, code := some k7c1 }
def k7c2 : Code := { maxStack := 4, maxLocals := 6, code := jdk_42_method_149_code, exceptionTable := #[], attributes := #[] }
def k7m2 : Method := { name := "<init>", desc := "([CIILjava/lang/Void;)V", sig := { parameters := [(.array .char), .int, .int, (.object "java/lang/Void")], returnType := none }, accessFlags := 2, code := some k7c2 }
/-- java/lang/String -/
def k7 : Class := { plain "java/lang/String" (some 0) with
  accessFlags := 49
  interfaces := #[2, 3, 4, 5, 6]
  cf := some (fileOf pool7 10 #[.nestMembers #[1103]] #[{ accessFlags := 1, nameIndex := 5, descriptorIndex := 6, attributes := #[] }, { accessFlags := 1, nameIndex := 5, descriptorIndex := 1010, attributes := #[] }, { accessFlags := 2, nameIndex := 5, descriptorIndex := 29, attributes := #[] }] 49 2 #[1106, 1108, 575, 1110, 1112] #[{ accessFlags := 18, nameIndex := 13, descriptorIndex := 14, attributes := #[] }, { accessFlags := 18, nameIndex := 17, descriptorIndex := 18, attributes := #[] }, { accessFlags := 2, nameIndex := 21, descriptorIndex := 22, attributes := #[] }, { accessFlags := 2, nameIndex := 25, descriptorIndex := 26, attributes := #[] }, { accessFlags := 26, nameIndex := 1116, descriptorIndex := 1117, attributes := #[] }, { accessFlags := 24, nameIndex := 40, descriptorIndex := 26, attributes := #[] }, { accessFlags := 26, nameIndex := 1101, descriptorIndex := 1102, attributes := #[] }, { accessFlags := 26, nameIndex := 1121, descriptorIndex := 1122, attributes := #[] }, { accessFlags := 25, nameIndex := 599, descriptorIndex := 600, attributes := #[] }, { accessFlags := 24, nameIndex := 1125, descriptorIndex := 18, attributes := #[] }, { accessFlags := 24, nameIndex := 1127, descriptorIndex := 18, attributes := #[] }])
  fields := #[{ name := "value", type := (.array .byte), accessFlags := 18, slot := 0, constantValue := 0 }, { name := "coder", type := .byte, accessFlags := 18, slot := 1, constantValue := 0 }, { name := "hash", type := .int, accessFlags := 2, slot := 2, constantValue := 0 }, { name := "hashIsZero", type := .boolean, accessFlags := 2, slot := 3, constantValue := 0 }, { name := "serialVersionUID", type := .long, accessFlags := 26, slot := 0, constantValue := 0 }, { name := "COMPACT_STRINGS", type := .boolean, accessFlags := 24, slot := 1, constantValue := 0 }, { name := "serialPersistentFields", type := (.array (.object "java/io/ObjectStreamField")), accessFlags := 26, slot := 2, constantValue := 0 }, { name := "REPL", type := .char, accessFlags := 26, slot := 3, constantValue := 0 }, { name := "CASE_INSENSITIVE_ORDER", type := (.object "java/util/Comparator"), accessFlags := 25, slot := 4, constantValue := 0 }, { name := "LATIN1", type := .byte, accessFlags := 24, slot := 5, constantValue := 0 }, { name := "UTF16", type := .byte, accessFlags := 24, slot := 6, constantValue := 0 }]
  methods := #[k7m0, k7m1, k7m2]
  instanceTypes := #[(.array .byte), .byte, .int, .boolean]
  staticTypes := #[.long, .boolean, (.array (.object "java/io/ObjectStreamField")), .char, (.object "java/util/Comparator"), .byte, .byte]
  resolved := Array.replicate 1451 none
  statics := some 0 }

def pool8 : Array CpInfo := pool [(6, .class_ 8), (1, u "java/lang/Object"), (0, u "<init>"), (0, u "()V"), (1, .class_ 14), (1, u "java/lang/StringUTF16"), (31, u "$assertionsDisabled"), (0, u "Z"), (13, u "HI_BYTE_SHIFT"), (0, u "I"), (2, u "LO_BYTE_SHIFT"), (49, .methodref 12 116), (0, .nameAndType 117 118), (0, u "compress"), (0, u "([CI[BII)I"), (3, u "([CII)[B"), (138, u "coderFromArrayLen"), (0, u "([BI)B"), (106, .class_ 371), (1, u "java/lang/StringUTF16$LinesSpliterator"), (58, u "MAX_LENGTH"), (196, .class_ 628), (0, u "java/lang/StringUTF16$CodePointsSpliterator"), (0, .class_ 630), (0, u "java/lang/StringUTF16$CharsSpliterator")] 4

def k8m0 : Method := { name := "<init>", desc := "()V", sig := { parameters := [], returnType := none }, accessFlags := 0, code := none }
def k8c1 : Code := { maxStack := 2, maxLocals := 2, code := jdk_52_method_15_code, exceptionTable := #[], attributes := #[] }
def k8m1 : Method := { name := "coderFromArrayLen", desc := "([BI)B", sig := { parameters := [(.array .byte), .int], returnType := some .byte }, accessFlags := 8, code := some k8c1 }
def k8c2 : Code := { maxStack := 5, maxLocals := 6, code := jdk_52_method_16_code, exceptionTable := #[], attributes := #[] }
def k8m2 : Method := { name := "compress", desc := "([CII)[B", sig := { parameters := [(.array .char), .int, .int], returnType := some (.array .byte) }, accessFlags := 9, code := some k8c2 }
def k8c3 : Code := { maxStack := 3, maxLocals := 7, code := jdk_52_method_21_code, exceptionTable := #[], attributes := #[] }
def k8m3 : Method := { name := "compress", desc := "([CI[BII)I", sig := { parameters := [(.array .char), .int, (.array .byte), .int, .int], returnType := some .int }, accessFlags := 9, code := some k8c3 }
/-- java/lang/StringUTF16 -/
def k8 : Class := { plain "java/lang/StringUTF16" (some 0) with
  accessFlags := 48
  interfaces := #[]
  cf := some (fileOf pool8 12 #[.nestMembers #[627, 629, 369]] #[{ accessFlags := 0, nameIndex := 9, descriptorIndex := 10, attributes := #[] }, { accessFlags := 8, nameIndex := 261, descriptorIndex := 262, attributes := #[] }, { accessFlags := 9, nameIndex := 117, descriptorIndex := 122, attributes := #[] }, { accessFlags := 9, nameIndex := 117, descriptorIndex := 118, attributes := #[] }] 48 6 #[] #[{ accessFlags := 26, nameIndex := 61, descriptorIndex := 62, attributes := #[] }, { accessFlags := 26, nameIndex := 65, descriptorIndex := 62, attributes := #[] }, { accessFlags := 24, nameIndex := 430, descriptorIndex := 62, attributes := #[] }, { accessFlags := 4120, nameIndex := 46, descriptorIndex := 47, attributes := #[] }])
  fields := #[{ name := "HI_BYTE_SHIFT", type := .int, accessFlags := 26, slot := 0, constantValue := 0 }, { name := "LO_BYTE_SHIFT", type := .int, accessFlags := 26, slot := 1, constantValue := 0 }, { name := "MAX_LENGTH", type := .int, accessFlags := 24, slot := 2, constantValue := 0 }, { name := "$assertionsDisabled", type := .boolean, accessFlags := 4120, slot := 3, constantValue := 0 }]
  methods := #[k8m0, k8m1, k8m2, k8m3]
  instanceTypes := #[]
  staticTypes := #[.int, .int, .int, .boolean]
  resolved := Array.replicate 635 none
  statics := none }

def pool9 : Array CpInfo := pool [(2, .class_ 4), (1, u "java/lang/Object"), (0, u "<init>"), (0, u "()V"), (0, .class_ 8), (0, u "com/example/overplan/overplan/model/Age"), (9, u "MAX"), (0, u "I"), (4, u "require"), (0, u "(ILjava/lang/String;)V")] 18

def k9m0 : Method := { name := "<init>", desc := "()V", sig := { parameters := [], returnType := none }, accessFlags := 2, code := none }
def k9c1 : Code := { maxStack := 4, maxLocals := 2, code := prog_18_method_2_code, exceptionTable := #[], attributes := #[] }
def k9m1 : Method := { name := "require", desc := "(ILjava/lang/String;)V", sig := { parameters := [.int, (.object "java/lang/String")], returnType := none }, accessFlags := 8, code := some k9c1 }
/-- com/example/overplan/overplan/model/Age -/
def k9 : Class := { plain "com/example/overplan/overplan/model/Age" (some 0) with
  accessFlags := 49
  interfaces := #[]
  cf := some (fileOf pool9 7 #[] #[{ accessFlags := 2, nameIndex := 5, descriptorIndex := 6, attributes := #[] }, { accessFlags := 8, nameIndex := 24, descriptorIndex := 25, attributes := #[] }] 49 2 #[] #[{ accessFlags := 25, nameIndex := 18, descriptorIndex := 19, attributes := #[] }])
  fields := #[{ name := "MAX", type := .int, accessFlags := 25, slot := 0, constantValue := 0 }]
  methods := #[k9m0, k9m1]
  instanceTypes := #[]
  staticTypes := #[.int]
  resolved := Array.replicate 44 none
  statics := none }

def pool10 : Array CpInfo := pool [(4, .class_ 6), (1, u "java/lang/Object"), (0, u "<init>"), (0, u "()V"), (5, .class_ 16), (1, u "java/lang/StringLatin1"), (104, u "$assertionsDisabled"), (0, u "Z"), (98, .class_ 223), (1, u "java/lang/StringLatin1$LinesSpliterator"), (166, .class_ 391), (0, u "java/lang/StringLatin1$CharsSpliterator")] 3

def k10m0 : Method := { name := "<init>", desc := "()V", sig := { parameters := [], returnType := none }, accessFlags := 0, code := none }
/-- java/lang/StringLatin1 -/
def k10 : Class := { plain "java/lang/StringLatin1" (some 0) with
  accessFlags := 48
  interfaces := #[]
  cf := some (fileOf pool10 14 #[.nestMembers #[390, 221]] #[{ accessFlags := 0, nameIndex := 7, descriptorIndex := 8, attributes := #[] }] 48 4 #[] #[{ accessFlags := 4120, nameIndex := 121, descriptorIndex := 122, attributes := #[] }])
  fields := #[{ name := "$assertionsDisabled", type := .boolean, accessFlags := 4120, slot := 0, constantValue := 0 }]
  methods := #[k10m0]
  instanceTypes := #[]
  staticTypes := #[.boolean]
  resolved := Array.replicate 395 none
  statics := none }

def pool11 : Array CpInfo := pool [(2, .class_ 4), (1, u "java/lang/Object"), (0, u "<init>"), (0, u "()V"), (17, .class_ 26), (1, u "jdk/internal/util/Preconditions"), (28, .class_ 56), (0, u "jdk/internal/util/Preconditions$4"), (57, .class_ 115), (0, u "jdk/internal/util/Preconditions$1"), (7, u "SIOOBE_FORMATTER"), (0, u "Ljava/util/function/BiFunction;"), (0, .class_ 126), (0, u "jdk/internal/util/Preconditions$2"), (3, u "AIOOBE_FORMATTER"), (0, .class_ 132), (0, u "jdk/internal/util/Preconditions$3"), (3, u "IOOBE_FORMATTER")] 57

def k11m0 : Method := { name := "<init>", desc := "()V", sig := { parameters := [], returnType := none }, accessFlags := 1, code := none }
/-- jdk/internal/util/Preconditions -/
def k11 : Class := { plain "jdk/internal/util/Preconditions" (some 0) with
  accessFlags := 33
  interfaces := #[]
  cf := some (fileOf pool11 24 #[.nestMembers #[55, 131, 125, 114]] #[{ accessFlags := 1, nameIndex := 5, descriptorIndex := 6, attributes := #[] }] 33 2 #[] #[{ accessFlags := 25, nameIndex := 123, descriptorIndex := 124, attributes := #[] }, { accessFlags := 25, nameIndex := 130, descriptorIndex := 124, attributes := #[] }, { accessFlags := 25, nameIndex := 136, descriptorIndex := 124, attributes := #[] }])
  fields := #[{ name := "SIOOBE_FORMATTER", type := (.object "java/util/function/BiFunction"), accessFlags := 25, slot := 0, constantValue := 0 }, { name := "AIOOBE_FORMATTER", type := (.object "java/util/function/BiFunction"), accessFlags := 25, slot := 1, constantValue := 0 }, { name := "IOOBE_FORMATTER", type := (.object "java/util/function/BiFunction"), accessFlags := 25, slot := 2, constantValue := 0 }]
  methods := #[k11m0]
  instanceTypes := #[]
  staticTypes := #[(.object "java/util/function/BiFunction"), (.object "java/util/function/BiFunction"), (.object "java/util/function/BiFunction")]
  resolved := Array.replicate 194 none
  statics := some 1 }

def pool12 : Array CpInfo := pool [(9, u "<init>"), (6, .class_ 18), (1, u "java/lang/Object"), (0, u "()V"), (1, .class_ 23), (1, u "jdk/internal/util/ArraysSupport"), (0, u "LOG2_ARRAY_LONG_INDEX_SCALE"), (0, u "I"), (2, u "U"), (0, u "Ljdk/internal/misc/Unsafe;"), (8, u "BIG_ENDIAN"), (0, u "Z"), (8, u "LOG2_BYTE_BIT_SIZE"), (4, u "LOG2_ARRAY_INT_INDEX_SCALE"), (54, u "JLA"), (0, u "Ljdk/internal/access/JavaLangAccess;"), (11, u "LOG2_ARRAY_BOOLEAN_INDEX_SCALE"), (9, u "LOG2_ARRAY_BYTE_INDEX_SCALE"), (5, u "LOG2_ARRAY_CHAR_INDEX_SCALE"), (5, u "LOG2_ARRAY_SHORT_INDEX_SCALE"), (18, u "LOG2_ARRAY_FLOAT_INDEX_SCALE"), (24, u "LOG2_ARRAY_DOUBLE_INDEX_SCALE"), (89, u "T_BOOLEAN"), (2, u "T_CHAR"), (1, u "T_FLOAT"), (1, u "T_DOUBLE"), (1, u "T_BYTE"), (1, u "T_SHORT"), (1, u "T_INT"), (1, u "T_LONG"), (1, u "SOFT_MAX_ARRAY_LENGTH")] 83

def k12m0 : Method := { name := "<init>", desc := "()V", sig := { parameters := [], returnType := none }, accessFlags := 2, code := none }
/-- jdk/internal/util/ArraysSupport -/
def k12 : Class := { plain "jdk/internal/util/ArraysSupport" (some 0) with
  accessFlags := 33
  interfaces := #[]
  cf := some (fileOf pool12 21 #[] #[{ accessFlags := 2, nameIndex := 9, descriptorIndex := 19, attributes := #[] }] 33 16 #[] #[{ accessFlags := 24, nameIndex := 28, descriptorIndex := 29, attributes := #[] }, { accessFlags := 26, nameIndex := 38, descriptorIndex := 39, attributes := #[] }, { accessFlags := 25, nameIndex := 121, descriptorIndex := 25, attributes := #[] }, { accessFlags := 25, nameIndex := 131, descriptorIndex := 25, attributes := #[] }, { accessFlags := 25, nameIndex := 137, descriptorIndex := 25, attributes := #[] }, { accessFlags := 25, nameIndex := 143, descriptorIndex := 25, attributes := #[] }, { accessFlags := 25, nameIndex := 53, descriptorIndex := 25, attributes := #[] }, { accessFlags := 25, nameIndex := 24, descriptorIndex := 25, attributes := #[] }, { accessFlags := 25, nameIndex := 162, descriptorIndex := 25, attributes := #[] }, { accessFlags := 25, nameIndex := 187, descriptorIndex := 25, attributes := #[] }, { accessFlags := 26, nameIndex := 48, descriptorIndex := 25, attributes := #[] }, { accessFlags := 25, nameIndex := 277, descriptorIndex := 25, attributes := #[] }, { accessFlags := 25, nameIndex := 280, descriptorIndex := 25, attributes := #[] }, { accessFlags := 25, nameIndex := 282, descriptorIndex := 25, attributes := #[] }, { accessFlags := 25, nameIndex := 284, descriptorIndex := 25, attributes := #[] }, { accessFlags := 25, nameIndex := 286, descriptorIndex := 25, attributes := #[] }, { accessFlags := 25, nameIndex := 288, descriptorIndex := 25, attributes := #[] }, { accessFlags := 25, nameIndex := 290, descriptorIndex := 25, attributes := #[] }, { accessFlags := 25, nameIndex := 292, descriptorIndex := 25, attributes := #[] }, { accessFlags := 26, nameIndex := 108, descriptorIndex := 109, attributes := #[] }, { accessFlags := 25, nameIndex := 294, descriptorIndex := 25, attributes := #[] }])
  fields := #[{ name := "U", type := (.object "jdk/internal/misc/Unsafe"), accessFlags := 24, slot := 0, constantValue := 0 }, { name := "BIG_ENDIAN", type := .boolean, accessFlags := 26, slot := 1, constantValue := 0 }, { name := "LOG2_ARRAY_BOOLEAN_INDEX_SCALE", type := .int, accessFlags := 25, slot := 2, constantValue := 0 }, { name := "LOG2_ARRAY_BYTE_INDEX_SCALE", type := .int, accessFlags := 25, slot := 3, constantValue := 0 }, { name := "LOG2_ARRAY_CHAR_INDEX_SCALE", type := .int, accessFlags := 25, slot := 4, constantValue := 0 }, { name := "LOG2_ARRAY_SHORT_INDEX_SCALE", type := .int, accessFlags := 25, slot := 5, constantValue := 0 }, { name := "LOG2_ARRAY_INT_INDEX_SCALE", type := .int, accessFlags := 25, slot := 6, constantValue := 0 }, { name := "LOG2_ARRAY_LONG_INDEX_SCALE", type := .int, accessFlags := 25, slot := 7, constantValue := 0 }, { name := "LOG2_ARRAY_FLOAT_INDEX_SCALE", type := .int, accessFlags := 25, slot := 8, constantValue := 0 }, { name := "LOG2_ARRAY_DOUBLE_INDEX_SCALE", type := .int, accessFlags := 25, slot := 9, constantValue := 0 }, { name := "LOG2_BYTE_BIT_SIZE", type := .int, accessFlags := 26, slot := 10, constantValue := 0 }, { name := "T_BOOLEAN", type := .int, accessFlags := 25, slot := 11, constantValue := 0 }, { name := "T_CHAR", type := .int, accessFlags := 25, slot := 12, constantValue := 0 }, { name := "T_FLOAT", type := .int, accessFlags := 25, slot := 13, constantValue := 0 }, { name := "T_DOUBLE", type := .int, accessFlags := 25, slot := 14, constantValue := 0 }, { name := "T_BYTE", type := .int, accessFlags := 25, slot := 15, constantValue := 0 }, { name := "T_SHORT", type := .int, accessFlags := 25, slot := 16, constantValue := 0 }, { name := "T_INT", type := .int, accessFlags := 25, slot := 17, constantValue := 0 }, { name := "T_LONG", type := .int, accessFlags := 25, slot := 18, constantValue := 0 }, { name := "JLA", type := (.object "jdk/internal/access/JavaLangAccess"), accessFlags := 26, slot := 19, constantValue := 0 }, { name := "SOFT_MAX_ARRAY_LENGTH", type := .int, accessFlags := 25, slot := 20, constantValue := 0 }]
  methods := #[k12m0]
  instanceTypes := #[]
  staticTypes := #[(.object "jdk/internal/misc/Unsafe"), .boolean, .int, .int, .int, .int, .int, .int, .int, .int, .int, .int, .int, .int, .int, .int, .int, .int, .int, (.object "jdk/internal/access/JavaLangAccess"), .int]
  resolved := Array.replicate 378 none
  statics := none }

def pool13 : Array CpInfo := pool [(1, u "java/lang/Cloneable"), (0, .class_ 1), (0, u "java/lang/Object"), (0, .class_ 3)] 3

/-- java/lang/Cloneable -/
def k13 : Class := { plain "java/lang/Cloneable" (some 0) with
  accessFlags := 1537
  interfaces := #[]
  cf := some (fileOf pool13 2 #[] #[] 1537 4 #[] #[])
  fields := #[]
  methods := #[]
  instanceTypes := #[]
  staticTypes := #[]
  resolved := Array.replicate 8 none
  statics := none }

/-- the primitive byte -/
def k14 : Class := { plain "byte" none with kind := .primitive 'B', accessFlags := 0x411 }
/-- [B -/
def k15 : Class := { plain "[B" (some 0) with kind := .array 14 .byte, interfaces := #[13, 2], accessFlags := 1041 }

/-- the primitive char -/
def k16 : Class := { plain "char" none with kind := .primitive 'C', accessFlags := 0x411 }
/-- [C -/
def k17 : Class := { plain "[C" (some 0) with kind := .array 16 .char, interfaces := #[13, 2], accessFlags := 1041 }

/-- the primitive int -/
def k18 : Class := { plain "int" none with kind := .primitive 'I', accessFlags := 0x411 }
/-- [I -/
def k19 : Class := { plain "[I" (some 0) with kind := .array 18 .int, interfaces := #[13, 2], accessFlags := 1041 }

def heap : Heap := #[{ cls := 7, slots := #[.long 0, .int 1, .null, .int 0, .null, .int 0, .int 0], vm := .statics 7 },
  { cls := 11, slots := #[.null, .null, .null], vm := .statics 11 }]
def classes : Array Class := #[k0, k1, k2, k3, k4, k5, k6, k7, k8, k9, k10, k11, k12, k13, k14, k15, k16, k17, k18, k19]
def interned : List (Array UInt16 × Addr) := []
def slotsUsed : Nat := 10
def theMethod : MethodId := ⟨1, 1⟩
def args0 : Array Value := #[.int 7, .int 8]
def aboutOver (below : List Frame) : State where
  vm := { classes := classes, interned := interned.toArray }
  heap := heap
  slotsUsed := slotsUsed
  threads := #[{ frames := .invoking theMethod args0 :: below }]
def below0 : List Frame := [.native { method := ⟨0, 0⟩, args := #[] }]
def about1 : State := aboutOver below0
def p0 : Program := .bare "" "" ""
def e0 : Env := launch0.env 0 0 0
theorem w_frames : about1.frames = Frame.invoking theMethod args0 :: below0 := rfl
set_option maxRecDepth 65536 in
theorem w_args : argsFit about1.vm theMethod args0 = true := by decide +kernel
set_option maxRecDepth 65536 in
theorem w_heap : heapFits about1 = true := by decide +kernel
set_option maxRecDepth 65536 in
theorem w_runnable : about1.curStatus? = some .runnable := by decide +kernel
set_option maxRecDepth 65536 in
theorem w_alone : about1.alone = true := by decide +kernel
set_option maxRecDepth 65536 in
theorem w_named : about1.methodNamed? x = some theMethod := by decide +kernel
set_option maxRecDepth 65536 in
theorem w_hears : about1.hears theMethod below0 = true := by decide +kernel
set_option maxRecDepth 65536 in
theorem w_ripe : about1.ripe theMethod args0 below0 = true := by decide +kernel
theorem w_running : about1.status = .running := rfl
set_option maxRecDepth 65536 in
theorem w_room : about1.hasRoom e0.platform room_1 = true :=
  launch0.hasRoom_least _ room_1 (by decide +kernel) (by decide +kernel) (by decide +kernel) (by decide +kernel) (by decide +kernel) (by decide +kernel)
theorem allAtoms_all (ts : List Jvm.Cond) (a : Array Jvm.Value) (st : Jvm.State) : (allAtoms ts).before a st = ts.all (fun c => c.before a st) := by
  induction ts with
  | nil => rfl
  | cons c t ih =>
    show (Jvm.Cond.and c (allAtoms t)).before a st = _
    rw [Jvm.Cond.before_and, ih, List.all_cons]
def words1 : List Jvm.Cond := Jvm.Cond.code x code maxLocals ret :: tables_1
/-- a 'code' word, met by the world's own term for the bytes: nothing is compared byte by byte -/
theorem code_word {y : MethodName} {bytes : ByteArray} {mx : Nat} {rt : Option FieldType} {a : Array Value} {s : State} {m : MethodId} {meth : Method} {c : Code} (h1 : s.methodNamed? y = some m) (h2 : s.vm.method? m = some meth) (h3 : meth.code = some c) (h4 : c.code = bytes)
    (h5 : (c.maxLocals == mx && c.exceptionTable.isEmpty && decide (c.maxStack ≤ mostOperands) && decide (meth.sig.returnType = rt) && !meth.locks && decide (parseMethodDescriptor y.desc = some meth.sig)) = true) : (Jvm.Cond.code y bytes mx rt).before a s = true := by
  simp only [Bool.and_eq_true, beq_iff_eq, Bool.not_eq_true', decide_eq_true_eq] at h5
  obtain ⟨⟨⟨⟨⟨g1, g2⟩, g3⟩, g4⟩, g5⟩, g6⟩ := h5
  simp [Cond.before, Cond.holds, Cond.value, h1, h2, h3, h4, g1, g2, g3, g4, g5, g6]
def isCode : Jvm.Cond → Bool
  | .code _ _ _ _ => true
  | _ => false
theorem all_split {L : List Jvm.Cond} {P : Jvm.Cond → Bool} (h1 : L.all (fun c => isCode c || P c) = true) (h2 : ∀ c ∈ L.filter isCode, P c = true) : L.all P = true := by
  refine List.all_eq_true.mpr fun c hc => ?_
  have h := List.all_eq_true.mp h1 c hc
  rcases Bool.eq_false_or_eq_true (isCode c) with hi | hi
  · exact h2 c (List.mem_filter.mpr ⟨hc, hi⟩)
  · simpa [hi] using h
set_option maxRecDepth 65536 in
theorem w_c0 : (Jvm.Cond.code x code maxLocals ret).before args0 about1 = true := code_word (m := ⟨1, 1⟩) (meth := k1m1) (c := k1c1) (by decide +kernel) rfl rfl rfl (by decide +kernel)
set_option maxRecDepth 65536 in
theorem w_c1 : (Jvm.Cond.code ({ cls := "java/lang/String", name := "<init>", desc := "([C)V" } : Jvm.MethodName) jdk_42_method_3_code (2 : Nat) (Option.none : Option Jvm.ClassFile.FieldType)).before args0 about1 = true := code_word (m := ⟨7, 1⟩) (meth := k7m1) (c := k7c1) (by decide +kernel) rfl rfl rfl (by decide +kernel)
set_option maxRecDepth 65536 in
theorem w_c2 : (Jvm.Cond.code ({ cls := "java/lang/String", name := "<init>", desc := "([CIILjava/lang/Void;)V" } : Jvm.MethodName) jdk_42_method_149_code (6 : Nat) (Option.none : Option Jvm.ClassFile.FieldType)).before args0 about1 = true := code_word (m := ⟨7, 2⟩) (meth := k7m2) (c := k7c2) (by decide +kernel) rfl rfl rfl (by decide +kernel)
set_option maxRecDepth 65536 in
theorem w_c3 : (Jvm.Cond.code ({ cls := "java/lang/Object", name := "<init>", desc := "()V" } : Jvm.MethodName) object_method_1_code (1 : Nat) (Option.none : Option Jvm.ClassFile.FieldType)).before args0 about1 = true := code_word (m := ⟨0, 0⟩) (meth := k0m0) (c := k0c0) (by decide +kernel) rfl rfl rfl (by decide +kernel)
set_option maxRecDepth 65536 in
theorem w_c4 : (Jvm.Cond.code ({ cls := "java/lang/StringUTF16", name := "compress", desc := "([CII)[B" } : Jvm.MethodName) jdk_52_method_16_code (6 : Nat) (Option.some (Jvm.ClassFile.FieldType.array Jvm.ClassFile.FieldType.byte))).before args0 about1 = true := code_word (m := ⟨8, 2⟩) (meth := k8m2) (c := k8c2) (by decide +kernel) rfl rfl rfl (by decide +kernel)
set_option maxRecDepth 65536 in
theorem w_c5 : (Jvm.Cond.code ({ cls := "java/lang/StringUTF16", name := "compress", desc := "([CI[BII)I" } : Jvm.MethodName) jdk_52_method_21_code (7 : Nat) (Option.some Jvm.ClassFile.FieldType.int)).before args0 about1 = true := code_word (m := ⟨8, 3⟩) (meth := k8m3) (c := k8c3) (by decide +kernel) rfl rfl rfl (by decide +kernel)
set_option maxRecDepth 65536 in
theorem w_c6 : (Jvm.Cond.code ({ cls := "java/lang/StringUTF16", name := "coderFromArrayLen", desc := "([BI)B" } : Jvm.MethodName) jdk_52_method_15_code (2 : Nat) (Option.some Jvm.ClassFile.FieldType.byte)).before args0 about1 = true := code_word (m := ⟨8, 1⟩) (meth := k8m1) (c := k8c1) (by decide +kernel) rfl rfl rfl (by decide +kernel)
set_option maxRecDepth 65536 in
theorem w_c7 : (Jvm.Cond.code ({ cls := "com/example/overplan/overplan/model/Age", name := "require", desc := "(ILjava/lang/String;)V" } : Jvm.MethodName) prog_18_method_2_code (2 : Nat) (Option.none : Option Jvm.ClassFile.FieldType)).before args0 about1 = true := code_word (m := ⟨9, 1⟩) (meth := k9m1) (c := k9c1) (by decide +kernel) rfl rfl rfl (by decide +kernel)
def codes1 : List Jvm.Cond := [Jvm.Cond.code x code maxLocals ret, Jvm.Cond.code ({ cls := "java/lang/String", name := "<init>", desc := "([C)V" } : Jvm.MethodName) jdk_42_method_3_code (2 : Nat) (Option.none : Option Jvm.ClassFile.FieldType), Jvm.Cond.code ({ cls := "java/lang/String", name := "<init>", desc := "([CIILjava/lang/Void;)V" } : Jvm.MethodName) jdk_42_method_149_code (6 : Nat) (Option.none : Option Jvm.ClassFile.FieldType), Jvm.Cond.code ({ cls := "java/lang/Object", name := "<init>", desc := "()V" } : Jvm.MethodName) object_method_1_code (1 : Nat) (Option.none : Option Jvm.ClassFile.FieldType), Jvm.Cond.code ({ cls := "java/lang/StringUTF16", name := "compress", desc := "([CII)[B" } : Jvm.MethodName) jdk_52_method_16_code (6 : Nat) (Option.some (Jvm.ClassFile.FieldType.array Jvm.ClassFile.FieldType.byte)), Jvm.Cond.code ({ cls := "java/lang/StringUTF16", name := "compress", desc := "([CI[BII)I" } : Jvm.MethodName) jdk_52_method_21_code (7 : Nat) (Option.some Jvm.ClassFile.FieldType.int), Jvm.Cond.code ({ cls := "java/lang/StringUTF16", name := "coderFromArrayLen", desc := "([BI)B" } : Jvm.MethodName) jdk_52_method_15_code (2 : Nat) (Option.some Jvm.ClassFile.FieldType.byte), Jvm.Cond.code ({ cls := "com/example/overplan/overplan/model/Age", name := "require", desc := "(ILjava/lang/String;)V" } : Jvm.MethodName) prog_18_method_2_code (2 : Nat) (Option.none : Option Jvm.ClassFile.FieldType)]
set_option maxRecDepth 65536 in
theorem codes_eq : words1.filter isCode = codes1 := rfl
theorem w_codes : ∀ c ∈ words1.filter isCode, c.before args0 about1 = true := by
  rw [codes_eq]
  intro c hc
  simp only [codes1, List.mem_cons, List.not_mem_nil, or_false] at hc
  rcases hc with rfl | rfl | rfl | rfl | rfl | rfl | rfl | rfl
  · exact w_c0
  · exact w_c1
  · exact w_c2
  · exact w_c3
  · exact w_c4
  · exact w_c5
  · exact w_c6
  · exact w_c7
set_option maxRecDepth 65536 in
theorem w_t1 : (words1.take 24).all (fun c => isCode c || c.before args0 about1) = true := by decide +kernel
set_option maxRecDepth 65536 in
theorem w_t2 : (words1.drop 24).all (fun c => isCode c || c.before args0 about1) = true := by decide +kernel
theorem w_tables : (allAtoms (Jvm.Cond.code x code maxLocals ret :: tables_1)).before args0 about1 = true := by
  rw [allAtoms_all]
  show words1.all (fun c => c.before args0 about1) = true
  refine all_split ?_ w_codes
  rw [← List.take_append_drop 24 words1, List.all_append, w_t1, w_t2]
  rfl
set_option maxRecDepth 65536 in
theorem w_rest : rest_1_c.before args0 about1 = true := by decide +kernel
set_option maxRecDepth 65536 in
theorem w_case : (Jvm.Cond.and given_1 narrow_1).before args0 about1 = true := by decide +kernel
theorem w_applies : (headSpec (Jvm.Cond.code x code maxLocals ret :: tables_1) room_1).applies x e0.platform about1 = true :=
  (Spec.applies_iff w_frames).mpr ⟨w_running, w_runnable, w_alone, w_named, w_hears, w_ripe, w_room, w_tables⟩
theorem atStart : AtStart classFile x code maxLocals ret World_1 tables_1 room_1 Calls_1 rest_1 Pre_1 launch0 p0 e0 about1 theMethod args0 below0 :=
  ⟨lists_1, trivial, launch0.admits_env _ _ _, launch0.least_env, fairChoices_fair.cas, fairChoices_fair.clock, w_frames, w_args, w_heap, w_applies, trivial, w_rest, w_case⟩
end start1
theorem witness_1 : WitnessClaimed_1 := ⟨start1.p0, start1.e0, start1.about1, start1.theMethod, start1.args0, start1.below0, start1.atStart⟩
end Jvm.Pilot.@@N@@
