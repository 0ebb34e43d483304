import JvmDerived
import JvmDerived.Pilot.@@N@@Statement
import JvmDerived.Pilot.@@N@@Code
set_option linter.unusedVariables false
set_option linter.unusedSimpArgs false
namespace Jvm.Pilot.@@N@@.W
open Jvm Jvm.ClassFile Sem Op Lib Jvm.Free Jvm.Stand Jvm.LawKit Jvm.RoadKit
/-! String constants: whatever entry of cl the VM holds an object for, that object bears the entry's text; its two cells are none of xs (the places that the walk may write) -/
def Lt (Z : State) (h : Heap) (xs : List Addr) (a : Addr) (units : Array UInt16) : Prop :=
  ∃ (t : Addr) (kb : ClassId), Exa Z h a "java/lang/String" ∧ Fld Z h a "java/lang/String" "value" "[B" (.ref t) ∧ Fld Z h a "java/lang/String" "coder" "B" (.int 0) ∧ Arv Z h t kb .byte (Int32.ofNat units.size) (units.toList.map fun u => Value.int (Jvm.Lit.byteI u)) (.int 0) ∧ a ∉ xs ∧ t ∉ xs
def Lits (Z : State) (cl : List (String × Nat)) (xs : List Addr) (vm : Vm) (h : Heap) : Prop :=
  (∀ x ∈ xs, x < h.size) ∧ ∀ q ∈ cl, ∀ (c : ClassId) (k : Class) (cf : ClassFile) (i : Nat) (units : Array UInt16) (a : Addr), vm.findClass q.1 = some c → vm.classes[c]? = some k → k.cf = some cf → cf.constantPool[q.2]? = some (.string i) → cf.constantPool[i]? = some (.utf8 units) →
    (k.resolved[q.2]? = some (some (.string a)) ∨ (k.resolved[q.2]? = some none ∧ vm.interned.find? (fun p => p.1 == units) = some (units, a))) → Lt Z h xs a units
section LitFacts
variable {Z : State} {cl : List (String × Nat)} {xs : List Addr} {vm : Vm} {h h' : Heap} {a : Addr} {units : Array UInt16}
theorem Lt.ext (F : Lt Z h xs a units) (E : Ext h h') : Lt Z h' xs a units := by
  obtain ⟨t, kb, f1, f2, f3, f4, f5, f6⟩ := F
  exact ⟨t, kb, f1.ext E, f2.ext E, f3.ext E, f4.ext E, f5, f6⟩
theorem Lt.keep {ws : List Addr} (F : Lt Z h xs a units) (K : Keep h h' ws) (hw : ∀ x ∈ ws, x ∈ xs) : Lt Z h' xs a units := by
  obtain ⟨t, kb, f1, f2, f3, f4, f5, f6⟩ := F
  exact ⟨t, kb, f1.keep K, f2.keep K (fun q => f5 (hw _ q)), f3.keep K (fun q => f5 (hw _ q)), f4.keep K (fun q => f6 (hw _ q)), f5, f6⟩
theorem Lt.cons {b : Addr} (F : Lt Z h xs a units) (hb : h.size ≤ b) : Lt Z h (b :: xs) a units := by
  obtain ⟨t, kb, f1, f2, f3, f4, f5, f6⟩ := F
  exact ⟨t, kb, f1, f2, f3, f4, ninS (Nat.ne_of_lt (Nat.lt_of_lt_of_le f1.lt hb)) f5, ninS (Nat.ne_of_lt (Nat.lt_of_lt_of_le f4.lt hb)) f6⟩
theorem Lt.sub {ys : List Addr} (F : Lt Z h xs a units) (hs : ∀ x ∈ ys, x ∈ xs) : Lt Z h ys a units := by
  obtain ⟨t, kb, f1, f2, f3, f4, f5, f6⟩ := F
  exact ⟨t, kb, f1, f2, f3, f4, fun q => f5 (hs _ q), fun q => f6 (hs _ q)⟩
theorem Lits.ext (F : Lits Z cl xs vm h) (E : Ext h h') : Lits Z cl xs vm h' := ⟨fun x hx => Nat.lt_of_lt_of_le (F.1 x hx) E.1, fun q hq c k cf i u a h1 h2 h3 h4 h5 h6 => (F.2 q hq c k cf i u a h1 h2 h3 h4 h5 h6).ext E⟩
theorem Lits.keep {ws : List Addr} (F : Lits Z cl xs vm h) (K : Keep h h' ws) (hw : ∀ x ∈ ws, x ∈ xs) : Lits Z cl xs vm h' := ⟨fun x hx => Nat.lt_of_lt_of_le (F.1 x hx) K.1, fun q hq c k cf i u a h1 h2 h3 h4 h5 h6 => (F.2 q hq c k cf i u a h1 h2 h3 h4 h5 h6).keep K hw⟩
theorem Lits.wr {b : Addr} {sl : Nat} {v : Value} (F : Lits Z cl xs vm h) (W : Wr h h' b sl v) (hb : b ∈ xs) : Lits Z cl xs vm h' := F.keep (Keep.of_wr W) (allS hb all0)
theorem Lits.cons {b : Addr} (F : Lits Z cl xs vm h) (hb : h.size ≤ b) (E : Ext h h') (hb' : b < h'.size) : Lits Z cl (b :: xs) vm h' := ⟨allS hb' fun x hx => Nat.lt_of_lt_of_le (F.1 x hx) E.1, fun q hq c k cf i u a h1 h2 h3 h4 h5 h6 => ((F.2 q hq c k cf i u a h1 h2 h3 h4 h5 h6).cons hb).ext E⟩
theorem Lits.sub {ys : List Addr} (F : Lits Z cl xs vm h) (hs : ∀ x ∈ ys, x ∈ xs) : Lits Z cl ys vm h := ⟨fun x hx => F.1 x (hs x hx), fun q hq c k cf i u a h1 h2 h3 h4 h5 h6 => (F.2 q hq c k cf i u a h1 h2 h3 h4 h5 h6).sub hs⟩
/-- the tables are warmer, the intern table at most one pair longer, whose object bears that pair's text -/
theorem Lits.step {s : State} {vm0 vm1 : Vm} (F : Lits Z cl xs vm0 h) (hsv : s.vm = vm0) (hW : s.Warmed39 vm1) (hi : vm1.interned = vm0.interned ∨ ∃ (units : Array UInt16) (a : Addr), vm1.interned = vm0.interned.push (units, a) ∧ Lt Z h xs a units) : Lits Z cl xs vm1 h := by
  subst hsv
  refine ⟨F.1, ?_⟩
  intro q hq c k1 cf i us b h1 h2 h3 h4 h5 h6
  have hf0 : s.vm.findClass q.1 = some c := by rw [← hW.alike.findClass]; exact h1
  obtain ⟨k0, hk0, -⟩ := Vm.findClass_spec hf0
  obtain ⟨k1', e1, e2, e3, e4, -⟩ := hW.2.2.2 c k0 hk0
  cases h2.symm.trans e1
  have hcf0 : k0.cf = some cf := by rw [e2] at h3; exact h3
  -- what the longer intern table finds
  have fnd : vm1.interned.find? (fun p => p.1 == us) = some (us, b) → s.vm.interned.find? (fun p => p.1 == us) = some (us, b) ∨ (s.vm.interned.find? (fun p => p.1 == us) = none ∧ Lt Z h xs b us) := fun hf => by
    rcases hi with hi | ⟨u0, a0, hi, hl⟩
    · exact Or.inl (by rw [← hi]; exact hf)
    · rw [hi, Array.find?_push] at hf
      cases hs : s.vm.interned.find? (fun p => p.1 == us) with
      | some z => rw [hs] at hf; exact Or.inl (by simpa using hf)
      | none =>
        rw [hs] at hf
        simp only [Option.none_or] at hf
        split at hf
        · cases hf; exact Or.inr ⟨rfl, hl⟩
        · cases hf
  have fin0 : k0.resolved[q.2]? = some none → vm1.interned.find? (fun p => p.1 == us) = some (us, b) → Lt Z h xs b us := fun ho hf => by
    rcases fnd hf with g | g
    · exact F.2 q hq c k0 cf i us b hf0 hk0 hcf0 h4 h5 (Or.inr ⟨ho, g⟩)
    · exact g.2
  rcases e4 q.2 with e0 | ⟨ho, r, e5, hr | ⟨a', text, si, us', rfl, -, q3, q4, q5⟩⟩
  · rcases h6 with h6 | ⟨h6, h7⟩
    · exact F.2 q hq c k0 cf i us b hf0 hk0 hcf0 h4 h5 (Or.inl (e0.symm.trans h6))
    · exact fin0 (e0.symm.trans h6) h7
  · exfalso
    rcases h6 with h6 | ⟨h6, -⟩
    · cases e5.symm.trans h6
      simp [State.rightAt, hk0, hcf0] at hr
    · cases e5.symm.trans h6
  · rcases h6 with h6 | ⟨h6, -⟩
    · cases e5.symm.trans h6
      rw [hcf0] at q3 q4
      have e7 : si = i := by
        have z := q3.symm.trans h4
        simpa using z
      subst e7
      have e8 : us' = us := by simpa [ConstantPool.utf8?, h5] using q4.symm
      subst e8
      exact fin0 ho q5
    · cases e5.symm.trans h6
/-- what the library says of a constant's object, in the facts' words -/
theorem lt_core {U : State} {q : SB.SQ} {cS : ClassId} (hal : Z.vm.Alike U.vm) (hlat : units.all (· < 256) = true) (hsl : SBG.Sl q cS U) (hkS : ∃ kS : Class, U.vm.classes[cS]? = some kS ∧ kS.kind = .ordinary ∧ q.sC.slots.size = kS.instanceTypes.size) (hB : U.vm.findClass "[B" = some q.SA.cls) (hbyt : q.SA.slots = stringBytes units) (ha : q.sa ∉ xs) (ht : q.sd ∉ xs) : Lt Z U.heap xs q.sa units := by
  obtain ⟨⟨s1, s2, s3, ⟨cv, kv, iv, s4, s4'⟩, ⟨cc, kc, ic, s5, s5'⟩, s6, s7, s8, s9, s10, s11, s12, s13, s14, s15, s16⟩, hfS, hcS⟩ := hsl
  obtain ⟨kS, k1, k2, k3⟩ := hkS
  obtain ⟨kv', z4⟩ := ff_back hal s4
  obtain ⟨kc', z5⟩ := ff_back hal s5
  have hfZ : Z.vm.findClass "java/lang/String" = some q.sC.cls := by rw [← hal.findClass, hcS]; exact hfS
  obtain ⟨kz, hkz, -⟩ := Vm.findClass_spec hfZ
  obtain ⟨kz', hkz', ekz⟩ := hal.2.2 _ _ hkz
  have ekS : kz' = kS := Option.some.inj (hkz'.symm.trans (hcS ▸ k1))
  have hBZ : Z.vm.findClass "[B" = some q.SA.cls := by rw [← hal.findClass]; exact hB
  obtain ⟨kb, hkb, -⟩ := Vm.findClass_spec hBZ
  obtain ⟨kb', hkb', ekb⟩ := hal.2.2 _ _ hkb
  obtain ⟨hst, k9, hk9, comp, hkind9⟩ := s11
  have ek9 : k9 = kb' := Option.some.inj (hk9.symm.trans hkb')
  have hAZ : Z.isArrayOf q.SA .byte := ⟨hst, kb, hkb, comp, by rw [ek9, ekb] at hkind9; exact hkind9⟩
  have hsl : q.SA.slots = units.map fun u => Value.int (Jvm.Lit.byteI u) := by rw [hbyt, SBG.stringBytes_lat hlat]; rfl
  have hsz : q.SA.slots.size = units.size := by rw [hsl, Array.size_map]
  have hb31 : units.size < 2 ^ 31 := by rw [← hsz, s13]; exact s14
  have hnn : ¬ Int32.ofNat units.size < 0 := by
    rw [Int32.lt_iff_toInt_lt, Int32.toInt_ofNat_small hb31]; have : (0 : Int32).toInt = 0 := rfl; omega
  have hnc : (Int32.ofNat units.size).toNatClampNeg = units.size := by
    show (Int32.ofNat units.size).toInt.toNat = _
    rw [Int32.toInt_ofNat_small hb31]; simp
  have H : Has q.SA (units.toList.map fun u => Value.int (Jvm.Lit.byteI u)) (.int 0) := fun j hj => by
    have hj' : j < units.size := by omega
    rw [hsl]; simp [hj']
  refine ⟨q.sd, q.SA.cls, ⟨q.sC, kz, s1, hfZ, hkz, s3, fun ho => by rw [k3, ← ekS, ekz]⟩, ⟨q.sC, cv, kv', iv, q.fSV, s1, z4, s6, s2, s3, by rw [← hal.assignable]; exact s4', s8⟩, ⟨q.sC, cc, kc', ic, q.fSC, s1, z5, s7, s2, s3, by rw [← hal.assignable]; exact s5', s9⟩, ⟨q.SA, ⟨s10, hAZ, s12⟩, rfl, by rw [hsz, hnc], hnn, H, fun j hj => ?_⟩, ha, ht⟩
  have e1 := s16 j hj
  have e2 := H j hj
  rw [SBG.getD_of e2] at e1
  exact e1
theorem lt_of_sl {U : State} (hal : Z.vm.Alike U.vm) (hlat : units.all (· < 256) = true) (F : SlOf U a units) : Lt Z U.heap [] a units := by
  obtain ⟨q, cS, rfl, hsl, hkS, hB, hbyt⟩ := F
  exact lt_core hal hlat hsl hkS hB hbyt nin0 nin0
/-- at the case's start -/
theorem Lits.start {a0 : Array Value} (hh : ∀ q ∈ cl, Jvm.Lit.constHeld Z q.1 q.2) (hl : ∀ q ∈ cl, ∃ text : String, (Cond.stringLink q.1 q.2 text).before a0 Z = true ∧ ∀ c ∈ text.toList, c.toNat < 256) (hcw : Jvm.Lit.compactW.before a0 Z = true) (wa : (Cond.arrayClass .byte).before a0 Z = true) (wi : (Cond.instantiable "java/lang/String" 4).before a0 Z = true) : Lits Z cl [] Z.vm Z.heap := by
  refine ⟨all0, ?_⟩
  intro q hq c k cf i us b h1 h2 h3 h4 h5 h6
  obtain ⟨text, w, ht⟩ := hl q hq
  obtain ⟨k', cf', i', us', hk', hcf', hp', hu', -, htext, -⟩ := Cond.stringLink_spec h1 w
  cases h2.symm.trans hk'
  cases h3.symm.trans hcf'
  cases h4.symm.trans hp'
  cases h5.symm.trans hu'
  exact lt_of_sl (Vm.Alike.refl _) (Jvm.ClassFile.lat_of_text htext ht) (heldStart (hh q hq) w ht hcw wa wi c k cf i us b h1 h2 h3 h4 h5 h6)
end LitFacts
/-- what stays fixed in a body's walk, the tables left out -/
def Cx0 (bytes : ByteArray) (maxL : Nat) (ret : Option FieldType) (mn : String) (p : Program) (meth : Method) (c : Code) : Prop :=
  p.tables.exec = Jvm.exec ∧ c.code = bytes ∧ c.maxLocals = maxL ∧ meth.sig.returnType = ret ∧ meth.locks = false ∧ meth.name = mn
/-- and with the tables at hand -/
def Cx (Z : State) (own : String) (bytes : ByteArray) (maxL : Nat) (ret : Option FieldType) (mn : String) (p : Program) (s : State) (m : MethodId) (meth : Method) (c : Code) : Prop :=
  p.tables.exec = Jvm.exec ∧ Z.Warmed39 s.vm ∧ s.vm.findClass own = some m.cls ∧ c.code = bytes ∧ c.maxLocals = maxL ∧ meth.sig.returnType = ret ∧ meth.locks = false ∧ meth.name = mn
/-- from the frame f at the heap h on, the body runs to its end and leaves Q; String constants may come to be loaded -/
def Go (p : Program) (l : Launch) (e : Env) (R : Room) (s : State) (m : MethodId) (args : Array Value) (below : List Frame) (meth : Method) (c : Code) (Z : State) (own : String) (cl : List (String × Nat)) (xs0 : List Addr) (n0 kc ks : Nat) (Q : Option Value → Heap → Prop) (xs : List Addr) (h : Heap) (cells slots : Nat) (f : JFrame) : Prop :=
  ∀ (T : State) (locs : List Loc) (vm0 : Vm) (k0 : Nat), Stand p l e R (s.setVm vm0) m args below meth c T locs cells slots → s.Since vm0 k0 → k0 ≤ h.size → Z.Warmed39 vm0 → vm0.findClass own = some m.cls → T.heap = h → Fr n0 locs → Lits Z cl xs vm0 h →
    ∃ s₂ o, Steps p.tables e below (T.setTop f) s₂ ∧ s₂.status = .running ∧ Ended s₂ below o ∧ ∃ v L, o = .returned v ∧ (Q v s₂.heap ∧ Lits Z cl xs0 s₂.vm s₂.heap ∧ Fr n0 L) ∧ ReturnedEndW s o s₂ L kc ks
/-- a body's contract: called with as' at the heap h it returns, and Q holds -/
def Ctr (l : Launch) (Z : State) (cl : List (String × Nat)) (xs : List Addr) (n0 : Nat) (y : MethodName) (bytes : ByteArray) (maxL : Nat) (ret : Option FieldType) (ws : List Cond) (rm : Room) (as' : Array Value) (h : Heap) (Q : Option Value → Heap → Prop) : Prop :=
  MetFree l y (head1 (Cond.code y bytes maxL ret :: ws) rm) (fun a U => a = as' ∧ Z.Warmed39 U.vm ∧ U.heap = h ∧ Lits Z cl xs U.vm h) (fun _ _ _ _ _ => True) (fun _ U o U' => ∃ v L, o = .returned v ∧ (Q v U'.heap ∧ Lits Z cl xs U'.vm U'.heap ∧ Fr n0 L) ∧ ReturnedEndW U o U' L rm.cells rm.slots)
theorem Ctr.body {l : Launch} {Z : State} {cl : List (String × Nat)} {xs : List Addr} {n0 : Nat} {y : MethodName} {bytes : ByteArray} {maxL : Nat} {ret : Option FieldType} {ws : List Cond} {rm : Room} {as' : Array Value} {h : Heap} {Q : Option Value → Heap → Prop}
    (hp : plainFor y = true)
    (body : ∀ p e s m below meth c, Cx0 bytes maxL ret y.name p meth c → Go p l e rm s m as' below meth c Z y.cls cl xs n0 rm.cells rm.slots Q xs h 0 0 (entryFrame m as' maxL)) : Ctr l Z cl xs n0 y bytes maxL ret ws rm as' h Q := by
  refine MetFree.of_bodySF hp hisR ?_
  intro p e s m args below meth c s₁ Bd hml0 hP hK
  obtain ⟨rfl, hZ, hh, hL⟩ := hP
  exact body p e s m below meth c ⟨Bd.exec, Bd.bytes, hml0, Bd.returns, Bd.notSynchronized, (name_of_methodNamed Bd.named Bd.method).1⟩ s₁ [] s.vm 0 (Stand.of_body Bd) ((State.WarmedH.refl s).since 0) (Nat.zero_le _) hZ (findClass_of_methodNamed Bd.named) (by rw [← hh, Bd.state]; rfl) (Fr.nil n0) hL
theorem Ctr.mono {l : Launch} {Z : State} {cl : List (String × Nat)} {xs : List Addr} {n0 : Nat} {y : MethodName} {bytes : ByteArray} {maxL : Nat} {ret : Option FieldType} {ws : List Cond} {rm : Room} {as' : Array Value} {h : Heap} {Q Q' : Option Value → Heap → Prop}
    (C : Ctr l Z cl xs n0 y bytes maxL ret ws rm as' h Q) (hq : ∀ v h', Q v h' → Q' v h') : Ctr l Z cl xs n0 y bytes maxL ret ws rm as' h Q' := by
  intro p e ha hc hk s m args below hf happ hP hK
  obtain ⟨n, o, h1, h2, h3, v, L, h4, ⟨h5, h6⟩, h7⟩ := C p e ha hc hk s m args below hf happ hP hK
  exact ⟨n, o, h1, h2, h3, v, L, h4, ⟨hq _ _ h5, h6⟩, h7⟩
def cdP (cd : ClassFile.Cond) (x y : Int32) : Prop := match cd with
  | .eq => x = y
  | .ne => ¬ x = y
  | .lt => x < y
  | .ge => ¬ x < y
  | .gt => y < x
  | .le => ¬ y < x
def cdN (cd : ClassFile.Cond) (x y : Int32) : Prop := match cd with
  | .eq => ¬ x = y
  | .ne => x = y
  | .lt => ¬ x < y
  | .ge => x < y
  | .gt => ¬ y < x
  | .le => y < x
theorem cd_yes {cd : ClassFile.Cond} {x y : Int32} (h : cdP cd x y) : if_icmp.holds cd x y = true := by
  cases cd
  · exact (teq h).1
  · exact (feq h).2
  · exact (tlt h).1
  · exact (flt h).2.1
  · exact (tlt h).2.2.1
  · exact (flt h).2.2.2
theorem cd_no {cd : ClassFile.Cond} {x y : Int32} (h : cdN cd x y) : if_icmp.holds cd x y = false := by
  cases cd
  · exact (feq h).1
  · exact (teq h).2
  · exact (flt h).1
  · exact (tlt h).2.1
  · exact (flt h).2.2.1
  · exact (tlt h).2.2.2
theorem cd_em (cd : ClassFile.Cond) (x y : Int32) : cdP cd x y ∨ cdN cd x y := by
  cases cd
  · exact Decidable.em (x = y)
  · exact (Decidable.em (x = y)).symm
  · exact Decidable.em (x < y)
  · exact (Decidable.em (x < y)).symm
  · exact Decidable.em (y < x)
  · exact (Decidable.em (y < x)).symm
section Rules
variable {p : Program} {l : Launch} {e : Env} {R : Room} {s : State} {m : MethodId} {args : Array Value} {below : List Frame} {meth : Method} {c : Code} {Z : State} {a0 : Array Value} {own mn : String} {cl : List (String × Nat)} {xs0 xs : List Addr} {bytes : ByteArray} {maxL : Nat} {ret : Option FieldType} {n0 kc ks : Nat} {Q : Option Value → Heap → Prop} {h : Heap} {cells slots : Nat} {pc q : Nat} {L : Array Slot} {S : List Value}
theorem Cx0.at {s' : State} (K : Cx0 bytes maxL ret mn p meth c) (hZ : Z.Warmed39 s'.vm) (ho : s'.vm.findClass own = some m.cls) : Cx Z own bytes maxL ret mn p s' m meth c := ⟨K.1, hZ, ho, K.2⟩
theorem Go.of_step {f f' : JFrame} (K : Cx0 bytes maxL ret mn p meth c) (st : ∀ s', Cx Z own bytes maxL ret mn p s' m meth c → ∀ T locs, Stand p l e R s' m args below meth c T locs cells slots → T.heap = h → ∀ t, Steps p.tables e below (T.setTop f') t → Steps p.tables e below (T.setTop f) t) (k : Go p l e R s m args below meth c Z own cl xs0 n0 kc ks Q xs h cells slots f') : Go p l e R s m args below meth c Z own cl xs0 n0 kc ks Q xs h cells slots f := fun T locs vm0 k0 X hS hk hZ ho eT N H => by
  obtain ⟨s₂, o, a1, a2⟩ := k T locs vm0 k0 X hS hk hZ ho eT N H
  exact ⟨s₂, o, st (s.setVm vm0) (K.at hZ ho) T locs X eT _ a1, a2⟩
/-- a step that warms the tables, the heap as it was -/
theorem Go.of_warm {f f' : JFrame} (K : Cx0 bytes maxL ret mn p meth c) (st : ∀ s', Cx Z own bytes maxL ret mn p s' m meth c → ∀ T locs, Stand p l e R s' m args below meth c T locs cells slots → T.heap = h → ∃ T', Stand p l e R s' m args below meth c T' locs cells slots ∧ T'.heap = h ∧ ∀ t, Steps p.tables e below (T'.setTop f') t → Steps p.tables e below (T.setTop f) t) (k : Go p l e R s m args below meth c Z own cl xs0 n0 kc ks Q xs h cells slots f') : Go p l e R s m args below meth c Z own cl xs0 n0 kc ks Q xs h cells slots f := fun T locs vm0 k0 X hS hk hZ ho eT N H => by
  obtain ⟨T', X', eT', st'⟩ := st (s.setVm vm0) (K.at hZ ho) T locs X eT
  obtain ⟨s₂, o, a1, a2⟩ := k T' locs vm0 k0 X' hS hk hZ ho eT' N H
  exact ⟨s₂, o, st' _ a1, a2⟩
/-- a step that makes or writes -/
theorem Go.of_heap {f : JFrame} {cells' slots' : Nat} (K : Cx0 bytes maxL ret mn p meth c) (st : ∀ s', Cx Z own bytes maxL ret mn p s' m meth c → ∀ T locs, Stand p l e R s' m args below meth c T locs cells slots → T.heap = h → Fr n0 locs → ∃ (T' : State) (h' : Heap) (locs' : List Loc) (f' : JFrame) (xs' : List Addr), Stand p l e R s' m args below meth c T' locs' cells' slots' ∧ T'.heap = h' ∧ h.size ≤ h'.size ∧ Fr n0 locs' ∧ (∀ vm, Lits Z cl xs vm h → Lits Z cl xs' vm h') ∧ (∀ t, Steps p.tables e below (T'.setTop f') t → Steps p.tables e below (T.setTop f) t) ∧ Go p l e R s m args below meth c Z own cl xs0 n0 kc ks Q xs' h' cells' slots' f') : Go p l e R s m args below meth c Z own cl xs0 n0 kc ks Q xs h cells slots f := fun T locs vm0 k0 X hS hk hZ ho eT N H => by
  obtain ⟨T', h', locs', f', xs', X', eT', hsz, N', H', st', k⟩ := st (s.setVm vm0) (K.at hZ ho) T locs X eT N
  obtain ⟨s₂, o, a1, a2⟩ := k T' locs' vm0 k0 X' hS (Nat.le_trans hk hsz) hZ ho eT' N' (H' _ H)
  exact ⟨s₂, o, st' _ a1, a2⟩
theorem Go.entry {f f' : JFrame} (q : f = f') (k : Go p l e R s m args below meth c Z own cl xs0 n0 kc ks Q xs h cells slots f') : Go p l e R s m args below meth c Z own cl xs0 n0 kc ks Q xs h cells slots f := q ▸ k
theorem Go.weaken {f : JFrame} {Q' : Option Value → Heap → Prop} (k : Go p l e R s m args below meth c Z own cl xs0 n0 kc ks Q' xs h cells slots f) (hq : ∀ v h', Q' v h' → Q v h') : Go p l e R s m args below meth c Z own cl xs0 n0 kc ks Q xs h cells slots f := fun T locs vm0 k0 X hS hk hZ ho eT N H => by
  obtain ⟨s₂, o, a1, a2, a3, v, L, a4, ⟨a5, a6⟩, a7⟩ := k T locs vm0 k0 X hS hk hZ ho eT N H
  exact ⟨s₂, o, a1, a2, a3, v, L, a4, ⟨hq _ _ a5, a6⟩, a7⟩
/-- more cells and slots may be booked -/
theorem Go.more {f : JFrame} {cells' slots' : Nat} (hc : cells ≤ cells') (hs : slots ≤ slots') (k : Go p l e R s m args below meth c Z own cl xs0 n0 kc ks Q xs h cells' slots' f) : Go p l e R s m args below meth c Z own cl xs0 n0 kc ks Q xs h cells slots f := fun T locs vm0 k0 X hS hk hZ ho eT N H => k T locs vm0 k0 (X.more hc hs) hS hk hZ ho eT N H
/-- fewer places are kept apart -/
theorem Go.less {f : JFrame} {ys : List Addr} (hs : ∀ x ∈ ys, x ∈ xs) (k : Go p l e R s m args below meth c Z own cl xs0 n0 kc ks Q ys h cells slots f) : Go p l e R s m args below meth c Z own cl xs0 n0 kc ks Q xs h cells slots f := fun T locs vm0 k0 X hS hk hZ ho eT N H => k T locs vm0 k0 X hS hk hZ ho eT N (H.sub hs)
theorem Go.aloadN (K : Cx0 bytes maxL ret mn p meth c) (hq : pc + 1 = q) {k : Fin 4} {v : Value} (hd : decode bytes pc = .ok (.aload_n k, 1)) (hl : L[k.val]? = some (.val v)) (hv : v.isRef = true) (r : Go p l e R s m args below meth c Z own cl xs0 n0 kc ks Q xs h cells slots (mkF m q L (v :: S))) : Go p l e R s m args below meth c Z own cl xs0 n0 kc ks Q xs h cells slots (mkF m pc L S) := Go.of_step K (fun s' K T locs X _ t k => by subst hq; exact XS.aloadN (g := mkF m pc L S) X.here K.1 rfl (hb K.2.2.2.1 hd) hl hv k) r
theorem Go.aload (K : Cx0 bytes maxL ret mn p meth c) (hq : pc + 2 = q) {k : Nat} {v : Value} (hd : decode bytes pc = .ok (.aload k, 2)) (hl : L[k]? = some (.val v)) (hv : v.isRef = true) (r : Go p l e R s m args below meth c Z own cl xs0 n0 kc ks Q xs h cells slots (mkF m q L (v :: S))) : Go p l e R s m args below meth c Z own cl xs0 n0 kc ks Q xs h cells slots (mkF m pc L S) := Go.of_step K (fun s' K T locs X _ t k => by subst hq; exact XS.aload (g := mkF m pc L S) X.here K.1 rfl (hb K.2.2.2.1 hd) hl hv k) r
theorem Go.iloadN (K : Cx0 bytes maxL ret mn p meth c) (hq : pc + 1 = q) {k : Fin 4} {v : Int32} (hd : decode bytes pc = .ok (.iload_n k, 1)) (hl : L[k.val]? = some (.val (.int v))) (r : Go p l e R s m args below meth c Z own cl xs0 n0 kc ks Q xs h cells slots (mkF m q L (.int v :: S))) : Go p l e R s m args below meth c Z own cl xs0 n0 kc ks Q xs h cells slots (mkF m pc L S) := Go.of_step K (fun s' K T locs X _ t k => by subst hq; exact XS.iloadN (g := mkF m pc L S) X.here K.1 rfl (hb K.2.2.2.1 hd) hl k) r
theorem Go.iload (K : Cx0 bytes maxL ret mn p meth c) (hq : pc + 2 = q) {k : Nat} {v : Int32} (hd : decode bytes pc = .ok (.iload k, 2)) (hl : L[k]? = some (.val (.int v))) (r : Go p l e R s m args below meth c Z own cl xs0 n0 kc ks Q xs h cells slots (mkF m q L (.int v :: S))) : Go p l e R s m args below meth c Z own cl xs0 n0 kc ks Q xs h cells slots (mkF m pc L S) := Go.of_step K (fun s' K T locs X _ t k => by subst hq; exact XS.iload (g := mkF m pc L S) X.here K.1 rfl (hb K.2.2.2.1 hd) hl k) r
theorem Go.lloadN (K : Cx0 bytes maxL ret mn p meth c) (hq : pc + 1 = q) {k : Fin 4} {v : Int64} (hd : decode bytes pc = .ok (.lload_n k, 1)) (hl : L[k.val]? = some (.val (.long v))) (r : Go p l e R s m args below meth c Z own cl xs0 n0 kc ks Q xs h cells slots (mkF m q L (.long v :: S))) : Go p l e R s m args below meth c Z own cl xs0 n0 kc ks Q xs h cells slots (mkF m pc L S) := Go.of_step K (fun s' K T locs X _ t k => by subst hq; exact XS.lloadN (g := mkF m pc L S) X.here K.1 rfl (hb K.2.2.2.1 hd) hl k) r
theorem Go.lload (K : Cx0 bytes maxL ret mn p meth c) (hq : pc + 2 = q) {k : Nat} {v : Int64} (hd : decode bytes pc = .ok (.lload k, 2)) (hl : L[k]? = some (.val (.long v))) (r : Go p l e R s m args below meth c Z own cl xs0 n0 kc ks Q xs h cells slots (mkF m q L (.long v :: S))) : Go p l e R s m args below meth c Z own cl xs0 n0 kc ks Q xs h cells slots (mkF m pc L S) := Go.of_step K (fun s' K T locs X _ t k => by subst hq; exact XS.lload (g := mkF m pc L S) X.here K.1 rfl (hb K.2.2.2.1 hd) hl k) r
theorem Go.iconst (K : Cx0 bytes maxL ret mn p meth c) (hq : pc + 1 = q) {i : Int} {v : Int32} (hv : Int32.ofInt i = v) (hd : decode bytes pc = .ok (.iconst i, 1)) (r : Go p l e R s m args below meth c Z own cl xs0 n0 kc ks Q xs h cells slots (mkF m q L (.int v :: S))) : Go p l e R s m args below meth c Z own cl xs0 n0 kc ks Q xs h cells slots (mkF m pc L S) := Go.of_step K (fun s' K T locs X _ t k => by subst hq hv; exact XS.iconst (g := mkF m pc L S) X.here K.1 rfl (hb K.2.2.2.1 hd) k) r
theorem Go.bipush (K : Cx0 bytes maxL ret mn p meth c) (hq : pc + 2 = q) {i : Int} {v : Int32} (hv : (Int8.ofInt i).toInt32 = v) (hd : decode bytes pc = .ok (.bipush i, 2)) (r : Go p l e R s m args below meth c Z own cl xs0 n0 kc ks Q xs h cells slots (mkF m q L (.int v :: S))) : Go p l e R s m args below meth c Z own cl xs0 n0 kc ks Q xs h cells slots (mkF m pc L S) := Go.of_step K (fun s' K T locs X _ t k => by subst hq hv; exact XS.bipush (g := mkF m pc L S) X.here K.1 rfl (hb K.2.2.2.1 hd) k) r
theorem Go.sipush (K : Cx0 bytes maxL ret mn p meth c) (hq : pc + 3 = q) {i : Int} {v : Int32} (hv : (Int16.ofInt i).toInt32 = v) (hd : decode bytes pc = .ok (.sipush i, 3)) (r : Go p l e R s m args below meth c Z own cl xs0 n0 kc ks Q xs h cells slots (mkF m q L (.int v :: S))) : Go p l e R s m args below meth c Z own cl xs0 n0 kc ks Q xs h cells slots (mkF m pc L S) := Go.of_step K (fun s' K T locs X _ t k => by subst hq hv; exact XS.sipush (g := mkF m pc L S) X.here K.1 rfl (hb K.2.2.2.1 hd) k) r
theorem Go.aconstNull (K : Cx0 bytes maxL ret mn p meth c) (hq : pc + 1 = q) (hd : decode bytes pc = .ok (.aconst_null, 1)) (r : Go p l e R s m args below meth c Z own cl xs0 n0 kc ks Q xs h cells slots (mkF m q L (.null :: S))) : Go p l e R s m args below meth c Z own cl xs0 n0 kc ks Q xs h cells slots (mkF m pc L S) := Go.of_step K (fun s' K T locs X _ t k => by subst hq; exact XS.aconstNull (g := mkF m pc L S) X.here K.1 rfl (hb K.2.2.2.1 hd) k) r
theorem Go.ldcInt (K : Cx0 bytes maxL ret mn p meth c) (hq : pc + 2 = q) {i : Nat} {v : Int32} (w : (Cond.constant own i v).before a0 Z = true) (hd : decode bytes pc = .ok (.ldc i, 2)) (r : Go p l e R s m args below meth c Z own cl xs0 n0 kc ks Q xs h cells slots (mkF m q L (.int v :: S))) : Go p l e R s m args below meth c Z own cl xs0 n0 kc ks Q xs h cells slots (mkF m pc L S) := Go.of_step K (fun s' K T locs X _ t k => by subst hq; exact X.ldcInt K.1 K.2.2.1 (mvT K.2.1 w) (g := mkF m pc L S) rfl (hb K.2.2.2.1 hd) _ k) r
theorem Go.ldc2Long (K : Cx0 bytes maxL ret mn p meth c) (hq : pc + 3 = q) {i : Nat} {v : Int64} (w : (Cond.constantLong own i v).before a0 Z = true) (hd : decode bytes pc = .ok (.ldc2_w i, 3)) (r : Go p l e R s m args below meth c Z own cl xs0 n0 kc ks Q xs h cells slots (mkF m q L (.long v :: S))) : Go p l e R s m args below meth c Z own cl xs0 n0 kc ks Q xs h cells slots (mkF m pc L S) := Go.of_step K (fun s' K T locs X _ t k => by subst hq; exact X.ldc2Long K.1 K.2.2.1 (mvT K.2.1 w) (g := mkF m pc L S) rfl (hb K.2.2.2.1 hd) _ k) r
theorem Go.iadd (K : Cx0 bytes maxL ret mn p meth c) (hq : pc + 1 = q) {x y : Int32} (hd : decode bytes pc = .ok (.iadd, 1)) (r : Go p l e R s m args below meth c Z own cl xs0 n0 kc ks Q xs h cells slots (mkF m q L (.int (x + y) :: S))) : Go p l e R s m args below meth c Z own cl xs0 n0 kc ks Q xs h cells slots (mkF m pc L (.int y :: .int x :: S)) := Go.of_step K (fun s' K T locs X _ t k => by subst hq; exact XS.iadd (g := mkF m pc L (.int y :: .int x :: S)) X.here K.1 rfl (hb K.2.2.2.1 hd) rfl k) r
theorem Go.isub (K : Cx0 bytes maxL ret mn p meth c) (hq : pc + 1 = q) {x y : Int32} (hd : decode bytes pc = .ok (.isub, 1)) (r : Go p l e R s m args below meth c Z own cl xs0 n0 kc ks Q xs h cells slots (mkF m q L (.int (x - y) :: S))) : Go p l e R s m args below meth c Z own cl xs0 n0 kc ks Q xs h cells slots (mkF m pc L (.int y :: .int x :: S)) := Go.of_step K (fun s' K T locs X _ t k => by subst hq; exact XS.isub (g := mkF m pc L (.int y :: .int x :: S)) X.here K.1 rfl (hb K.2.2.2.1 hd) rfl k) r
theorem Go.imul (K : Cx0 bytes maxL ret mn p meth c) (hq : pc + 1 = q) {x y : Int32} (hd : decode bytes pc = .ok (.imul, 1)) (r : Go p l e R s m args below meth c Z own cl xs0 n0 kc ks Q xs h cells slots (mkF m q L (.int (x * y) :: S))) : Go p l e R s m args below meth c Z own cl xs0 n0 kc ks Q xs h cells slots (mkF m pc L (.int y :: .int x :: S)) := Go.of_step K (fun s' K T locs X _ t k => by subst hq; exact XS.imul (g := mkF m pc L (.int y :: .int x :: S)) X.here K.1 rfl (hb K.2.2.2.1 hd) rfl k) r
theorem Go.iand (K : Cx0 bytes maxL ret mn p meth c) (hq : pc + 1 = q) {x y : Int32} (hd : decode bytes pc = .ok (.iand, 1)) (r : Go p l e R s m args below meth c Z own cl xs0 n0 kc ks Q xs h cells slots (mkF m q L (.int (x &&& y) :: S))) : Go p l e R s m args below meth c Z own cl xs0 n0 kc ks Q xs h cells slots (mkF m pc L (.int y :: .int x :: S)) := Go.of_step K (fun s' K T locs X _ t k => by subst hq; exact XS.iand (g := mkF m pc L (.int y :: .int x :: S)) X.here K.1 rfl (hb K.2.2.2.1 hd) rfl k) r
theorem Go.ior (K : Cx0 bytes maxL ret mn p meth c) (hq : pc + 1 = q) {x y : Int32} (hd : decode bytes pc = .ok (.ior, 1)) (r : Go p l e R s m args below meth c Z own cl xs0 n0 kc ks Q xs h cells slots (mkF m q L (.int (x ||| y) :: S))) : Go p l e R s m args below meth c Z own cl xs0 n0 kc ks Q xs h cells slots (mkF m pc L (.int y :: .int x :: S)) := Go.of_step K (fun s' K T locs X _ t k => by subst hq; exact XS.ior (g := mkF m pc L (.int y :: .int x :: S)) X.here K.1 rfl (hb K.2.2.2.1 hd) rfl k) r
theorem Go.ixor (K : Cx0 bytes maxL ret mn p meth c) (hq : pc + 1 = q) {x y : Int32} (hd : decode bytes pc = .ok (.ixor, 1)) (r : Go p l e R s m args below meth c Z own cl xs0 n0 kc ks Q xs h cells slots (mkF m q L (.int (x ^^^ y) :: S))) : Go p l e R s m args below meth c Z own cl xs0 n0 kc ks Q xs h cells slots (mkF m pc L (.int y :: .int x :: S)) := Go.of_step K (fun s' K T locs X _ t k => by subst hq; exact XS.ixor (g := mkF m pc L (.int y :: .int x :: S)) X.here K.1 rfl (hb K.2.2.2.1 hd) rfl k) r
theorem Go.ishl (K : Cx0 bytes maxL ret mn p meth c) (hq : pc + 1 = q) {x y : Int32} (hd : decode bytes pc = .ok (.ishl, 1)) (r : Go p l e R s m args below meth c Z own cl xs0 n0 kc ks Q xs h cells slots (mkF m q L (.int (x <<< (y &&& 31)) :: S))) : Go p l e R s m args below meth c Z own cl xs0 n0 kc ks Q xs h cells slots (mkF m pc L (.int y :: .int x :: S)) := Go.of_step K (fun s' K T locs X _ t k => by subst hq; exact XS.ishl (g := mkF m pc L (.int y :: .int x :: S)) X.here K.1 rfl (hb K.2.2.2.1 hd) rfl k) r
theorem Go.ishr (K : Cx0 bytes maxL ret mn p meth c) (hq : pc + 1 = q) {x y : Int32} (hd : decode bytes pc = .ok (.ishr, 1)) (r : Go p l e R s m args below meth c Z own cl xs0 n0 kc ks Q xs h cells slots (mkF m q L (.int (x >>> (y &&& 31)) :: S))) : Go p l e R s m args below meth c Z own cl xs0 n0 kc ks Q xs h cells slots (mkF m pc L (.int y :: .int x :: S)) := Go.of_step K (fun s' K T locs X _ t k => by subst hq; exact XS.ishr (g := mkF m pc L (.int y :: .int x :: S)) X.here K.1 rfl (hb K.2.2.2.1 hd) rfl k) r
theorem Go.iushr (K : Cx0 bytes maxL ret mn p meth c) (hq : pc + 1 = q) {x y : Int32} (hd : decode bytes pc = .ok (.iushr, 1)) (r : Go p l e R s m args below meth c Z own cl xs0 n0 kc ks Q xs h cells slots (mkF m q L (.int ((x.toUInt32 >>> (y &&& 31).toUInt32).toInt32) :: S))) : Go p l e R s m args below meth c Z own cl xs0 n0 kc ks Q xs h cells slots (mkF m pc L (.int y :: .int x :: S)) := Go.of_step K (fun s' K T locs X _ t k => by subst hq; exact XS.iushr (g := mkF m pc L (.int y :: .int x :: S)) X.here K.1 rfl (hb K.2.2.2.1 hd) rfl k) r
theorem Go.ladd (K : Cx0 bytes maxL ret mn p meth c) (hq : pc + 1 = q) {x y : Int64} (hd : decode bytes pc = .ok (.ladd, 1)) (r : Go p l e R s m args below meth c Z own cl xs0 n0 kc ks Q xs h cells slots (mkF m q L (.long (x + y) :: S))) : Go p l e R s m args below meth c Z own cl xs0 n0 kc ks Q xs h cells slots (mkF m pc L (.long y :: .long x :: S)) := Go.of_step K (fun s' K T locs X _ t k => by subst hq; exact XS.ladd (g := mkF m pc L (.long y :: .long x :: S)) X.here K.1 rfl (hb K.2.2.2.1 hd) rfl k) r
theorem Go.lsub (K : Cx0 bytes maxL ret mn p meth c) (hq : pc + 1 = q) {x y : Int64} (hd : decode bytes pc = .ok (.lsub, 1)) (r : Go p l e R s m args below meth c Z own cl xs0 n0 kc ks Q xs h cells slots (mkF m q L (.long (x - y) :: S))) : Go p l e R s m args below meth c Z own cl xs0 n0 kc ks Q xs h cells slots (mkF m pc L (.long y :: .long x :: S)) := Go.of_step K (fun s' K T locs X _ t k => by subst hq; exact XS.lsub (g := mkF m pc L (.long y :: .long x :: S)) X.here K.1 rfl (hb K.2.2.2.1 hd) rfl k) r
theorem Go.lmul (K : Cx0 bytes maxL ret mn p meth c) (hq : pc + 1 = q) {x y : Int64} (hd : decode bytes pc = .ok (.lmul, 1)) (r : Go p l e R s m args below meth c Z own cl xs0 n0 kc ks Q xs h cells slots (mkF m q L (.long (x * y) :: S))) : Go p l e R s m args below meth c Z own cl xs0 n0 kc ks Q xs h cells slots (mkF m pc L (.long y :: .long x :: S)) := Go.of_step K (fun s' K T locs X _ t k => by subst hq; exact XS.lmul (g := mkF m pc L (.long y :: .long x :: S)) X.here K.1 rfl (hb K.2.2.2.1 hd) rfl k) r
theorem Go.land (K : Cx0 bytes maxL ret mn p meth c) (hq : pc + 1 = q) {x y : Int64} (hd : decode bytes pc = .ok (.land, 1)) (r : Go p l e R s m args below meth c Z own cl xs0 n0 kc ks Q xs h cells slots (mkF m q L (.long (x &&& y) :: S))) : Go p l e R s m args below meth c Z own cl xs0 n0 kc ks Q xs h cells slots (mkF m pc L (.long y :: .long x :: S)) := Go.of_step K (fun s' K T locs X _ t k => by subst hq; exact XS.land (g := mkF m pc L (.long y :: .long x :: S)) X.here K.1 rfl (hb K.2.2.2.1 hd) rfl k) r
theorem Go.lor (K : Cx0 bytes maxL ret mn p meth c) (hq : pc + 1 = q) {x y : Int64} (hd : decode bytes pc = .ok (.lor, 1)) (r : Go p l e R s m args below meth c Z own cl xs0 n0 kc ks Q xs h cells slots (mkF m q L (.long (x ||| y) :: S))) : Go p l e R s m args below meth c Z own cl xs0 n0 kc ks Q xs h cells slots (mkF m pc L (.long y :: .long x :: S)) := Go.of_step K (fun s' K T locs X _ t k => by subst hq; exact XS.lor (g := mkF m pc L (.long y :: .long x :: S)) X.here K.1 rfl (hb K.2.2.2.1 hd) rfl k) r
theorem Go.lxor (K : Cx0 bytes maxL ret mn p meth c) (hq : pc + 1 = q) {x y : Int64} (hd : decode bytes pc = .ok (.lxor, 1)) (r : Go p l e R s m args below meth c Z own cl xs0 n0 kc ks Q xs h cells slots (mkF m q L (.long (x ^^^ y) :: S))) : Go p l e R s m args below meth c Z own cl xs0 n0 kc ks Q xs h cells slots (mkF m pc L (.long y :: .long x :: S)) := Go.of_step K (fun s' K T locs X _ t k => by subst hq; exact XS.lxor (g := mkF m pc L (.long y :: .long x :: S)) X.here K.1 rfl (hb K.2.2.2.1 hd) rfl k) r
theorem Go.lshl (K : Cx0 bytes maxL ret mn p meth c) (hq : pc + 1 = q) {x : Int64} {y : Int32} (hd : decode bytes pc = .ok (.lshl, 1)) (r : Go p l e R s m args below meth c Z own cl xs0 n0 kc ks Q xs h cells slots (mkF m q L (.long (x <<< (y &&& 0x3f).toInt64) :: S))) : Go p l e R s m args below meth c Z own cl xs0 n0 kc ks Q xs h cells slots (mkF m pc L (.int y :: .long x :: S)) := Go.of_step K (fun s' K T locs X _ t k => by subst hq; exact XS.lshl (g := mkF m pc L (.int y :: .long x :: S)) X.here K.1 rfl (hb K.2.2.2.1 hd) rfl k) r
theorem Go.lshr (K : Cx0 bytes maxL ret mn p meth c) (hq : pc + 1 = q) {x : Int64} {y : Int32} (hd : decode bytes pc = .ok (.lshr, 1)) (r : Go p l e R s m args below meth c Z own cl xs0 n0 kc ks Q xs h cells slots (mkF m q L (.long (x >>> (y &&& 0x3f).toInt64) :: S))) : Go p l e R s m args below meth c Z own cl xs0 n0 kc ks Q xs h cells slots (mkF m pc L (.int y :: .long x :: S)) := Go.of_step K (fun s' K T locs X _ t k => by subst hq; exact XS.lshr (g := mkF m pc L (.int y :: .long x :: S)) X.here K.1 rfl (hb K.2.2.2.1 hd) rfl k) r
theorem Go.lushr (K : Cx0 bytes maxL ret mn p meth c) (hq : pc + 1 = q) {x : Int64} {y : Int32} (hd : decode bytes pc = .ok (.lushr, 1)) (r : Go p l e R s m args below meth c Z own cl xs0 n0 kc ks Q xs h cells slots (mkF m q L (.long ((x.toUInt64 >>> (y &&& 0x3f).toInt64.toUInt64).toInt64) :: S))) : Go p l e R s m args below meth c Z own cl xs0 n0 kc ks Q xs h cells slots (mkF m pc L (.int y :: .long x :: S)) := Go.of_step K (fun s' K T locs X _ t k => by subst hq; exact XS.lushr (g := mkF m pc L (.int y :: .long x :: S)) X.here K.1 rfl (hb K.2.2.2.1 hd) rfl k) r
theorem Go.lcmp (K : Cx0 bytes maxL ret mn p meth c) (hq : pc + 1 = q) {x y : Int64} (hd : decode bytes pc = .ok (.lcmp, 1)) (r : Go p l e R s m args below meth c Z own cl xs0 n0 kc ks Q xs h cells slots (mkF m q L (.int (lcmpW x y) :: S))) : Go p l e R s m args below meth c Z own cl xs0 n0 kc ks Q xs h cells slots (mkF m pc L (.long y :: .long x :: S)) := Go.of_step K (fun s' K T locs X _ t k => by subst hq; exact XS.lcmp (g := mkF m pc L (.long y :: .long x :: S)) X.here K.1 rfl (hb K.2.2.2.1 hd) rfl k) r
theorem Go.ineg (K : Cx0 bytes maxL ret mn p meth c) (hq : pc + 1 = q) {x : Int32} (hd : decode bytes pc = .ok (.ineg, 1)) (r : Go p l e R s m args below meth c Z own cl xs0 n0 kc ks Q xs h cells slots (mkF m q L (.int (-x) :: S))) : Go p l e R s m args below meth c Z own cl xs0 n0 kc ks Q xs h cells slots (mkF m pc L (.int x :: S)) := Go.of_step K (fun s' K T locs X _ t k => by subst hq; exact XS.ineg (g := mkF m pc L (.int x :: S)) X.here K.1 rfl (hb K.2.2.2.1 hd) rfl k) r
theorem Go.i2l (K : Cx0 bytes maxL ret mn p meth c) (hq : pc + 1 = q) {x : Int32} (hd : decode bytes pc = .ok (.i2l, 1)) (r : Go p l e R s m args below meth c Z own cl xs0 n0 kc ks Q xs h cells slots (mkF m q L (.long x.toInt64 :: S))) : Go p l e R s m args below meth c Z own cl xs0 n0 kc ks Q xs h cells slots (mkF m pc L (.int x :: S)) := Go.of_step K (fun s' K T locs X _ t k => by subst hq; exact XS.i2l (g := mkF m pc L (.int x :: S)) X.here K.1 rfl (hb K.2.2.2.1 hd) rfl k) r
theorem Go.l2i (K : Cx0 bytes maxL ret mn p meth c) (hq : pc + 1 = q) {x : Int64} (hd : decode bytes pc = .ok (.l2i, 1)) (r : Go p l e R s m args below meth c Z own cl xs0 n0 kc ks Q xs h cells slots (mkF m q L (.int x.toInt32 :: S))) : Go p l e R s m args below meth c Z own cl xs0 n0 kc ks Q xs h cells slots (mkF m pc L (.long x :: S)) := Go.of_step K (fun s' K T locs X _ t k => by subst hq; exact XS.l2i (g := mkF m pc L (.long x :: S)) X.here K.1 rfl (hb K.2.2.2.1 hd) rfl k) r
theorem Go.i2b (K : Cx0 bytes maxL ret mn p meth c) (hq : pc + 1 = q) {x : Int32} (hd : decode bytes pc = .ok (.i2b, 1)) (r : Go p l e R s m args below meth c Z own cl xs0 n0 kc ks Q xs h cells slots (mkF m q L (.int x.toInt8.toInt32 :: S))) : Go p l e R s m args below meth c Z own cl xs0 n0 kc ks Q xs h cells slots (mkF m pc L (.int x :: S)) := Go.of_step K (fun s' K T locs X _ t k => by subst hq; exact XS.i2b (g := mkF m pc L (.int x :: S)) X.here K.1 rfl (hb K.2.2.2.1 hd) rfl k) r
theorem Go.i2s (K : Cx0 bytes maxL ret mn p meth c) (hq : pc + 1 = q) {x : Int32} (hd : decode bytes pc = .ok (.i2s, 1)) (r : Go p l e R s m args below meth c Z own cl xs0 n0 kc ks Q xs h cells slots (mkF m q L (.int x.toInt16.toInt32 :: S))) : Go p l e R s m args below meth c Z own cl xs0 n0 kc ks Q xs h cells slots (mkF m pc L (.int x :: S)) := Go.of_step K (fun s' K T locs X _ t k => by subst hq; exact XS.i2s (g := mkF m pc L (.int x :: S)) X.here K.1 rfl (hb K.2.2.2.1 hd) rfl k) r
theorem Go.i2c (K : Cx0 bytes maxL ret mn p meth c) (hq : pc + 1 = q) {x : Int32} (hd : decode bytes pc = .ok (.i2c, 1)) (r : Go p l e R s m args below meth c Z own cl xs0 n0 kc ks Q xs h cells slots (mkF m q L (.int x.toUInt32.toUInt16.toUInt32.toInt32 :: S))) : Go p l e R s m args below meth c Z own cl xs0 n0 kc ks Q xs h cells slots (mkF m pc L (.int x :: S)) := Go.of_step K (fun s' K T locs X _ t k => by subst hq; exact XS.i2c (g := mkF m pc L (.int x :: S)) X.here K.1 rfl (hb K.2.2.2.1 hd) rfl k) r
theorem Go.irem (K : Cx0 bytes maxL ret mn p meth c) (hq : pc + 1 = q) {x y : Int32} (hd : decode bytes pc = .ok (.irem, 1)) (hy : y ≠ 0) (r : Go p l e R s m args below meth c Z own cl xs0 n0 kc ks Q xs h cells slots (mkF m q L (.int (x % y) :: S))) : Go p l e R s m args below meth c Z own cl xs0 n0 kc ks Q xs h cells slots (mkF m pc L (.int y :: .int x :: S)) := Go.of_step K (fun s' K T locs X _ t k => by subst hq; exact iremM (g := mkF m pc L (.int y :: .int x :: S)) X K.1 rfl (hb K.2.2.2.1 hd) rfl hy k) r
theorem Go.idiv (K : Cx0 bytes maxL ret mn p meth c) (hq : pc + 1 = q) {x y : Int32} (hd : decode bytes pc = .ok (.idiv, 1)) (hy : y ≠ 0) (r : Go p l e R s m args below meth c Z own cl xs0 n0 kc ks Q xs h cells slots (mkF m q L (.int (x / y) :: S))) : Go p l e R s m args below meth c Z own cl xs0 n0 kc ks Q xs h cells slots (mkF m pc L (.int y :: .int x :: S)) := Go.of_step K (fun s' K T locs X _ t k => by subst hq; exact XS.idiv (g := mkF m pc L (.int y :: .int x :: S)) X.here K.1 rfl (hb K.2.2.2.1 hd) rfl hy k) r
theorem Go.dup (K : Cx0 bytes maxL ret mn p meth c) (hq : pc + 1 = q) {x : Value} (hd : decode bytes pc = .ok (.dup, 1)) (hc : x.category = 1) (r : Go p l e R s m args below meth c Z own cl xs0 n0 kc ks Q xs h cells slots (mkF m q L (x :: x :: S))) : Go p l e R s m args below meth c Z own cl xs0 n0 kc ks Q xs h cells slots (mkF m pc L (x :: S)) := Go.of_step K (fun s' K T locs X _ t k => by subst hq; exact XS.dup (g := mkF m pc L (x :: S)) X.here K.1 rfl (hb K.2.2.2.1 hd) rfl hc k) r
theorem Go.dupX1 (K : Cx0 bytes maxL ret mn p meth c) (hq : pc + 1 = q) {x y : Value} (hd : decode bytes pc = .ok (.dup_x1, 1)) (hc : x.category = 1) (hc' : y.category = 1) (r : Go p l e R s m args below meth c Z own cl xs0 n0 kc ks Q xs h cells slots (mkF m q L (x :: y :: x :: S))) : Go p l e R s m args below meth c Z own cl xs0 n0 kc ks Q xs h cells slots (mkF m pc L (x :: y :: S)) := Go.of_step K (fun s' K T locs X _ t k => by subst hq; exact XS.dupX1 (g := mkF m pc L (x :: y :: S)) X.here K.1 rfl (hb K.2.2.2.1 hd) rfl hc hc' k) r
theorem Go.pop (K : Cx0 bytes maxL ret mn p meth c) (hq : pc + 1 = q) {x : Value} (hd : decode bytes pc = .ok (.pop, 1)) (hc : x.category = 1) (r : Go p l e R s m args below meth c Z own cl xs0 n0 kc ks Q xs h cells slots (mkF m q L S)) : Go p l e R s m args below meth c Z own cl xs0 n0 kc ks Q xs h cells slots (mkF m pc L (x :: S)) := Go.of_step K (fun s' K T locs X _ t k => by subst hq; exact XS.pop (g := mkF m pc L (x :: S)) X.here K.1 rfl (hb K.2.2.2.1 hd) rfl hc k) r
theorem Go.istoreN (K : Cx0 bytes maxL ret mn p meth c) (hq : pc + 1 = q) {k : Fin 4} {x : Int32} {L' : Array Slot} (hd : decode bytes pc = .ok (.istore_n k, 1)) (hl : storeLocals L k.val (.int x) = some L') (r : Go p l e R s m args below meth c Z own cl xs0 n0 kc ks Q xs h cells slots (mkF m q L' S)) : Go p l e R s m args below meth c Z own cl xs0 n0 kc ks Q xs h cells slots (mkF m pc L (.int x :: S)) := Go.of_step K (fun s' K T locs X _ t k => by subst hq; exact XS.istoreN (g := mkF m pc L (.int x :: S)) X.here K.1 rfl (hb K.2.2.2.1 hd) rfl hl k) r
theorem Go.istore (K : Cx0 bytes maxL ret mn p meth c) (hq : pc + 2 = q) {k : Nat} {x : Int32} {L' : Array Slot} (hd : decode bytes pc = .ok (.istore k, 2)) (hl : storeLocals L k (.int x) = some L') (r : Go p l e R s m args below meth c Z own cl xs0 n0 kc ks Q xs h cells slots (mkF m q L' S)) : Go p l e R s m args below meth c Z own cl xs0 n0 kc ks Q xs h cells slots (mkF m pc L (.int x :: S)) := Go.of_step K (fun s' K T locs X _ t k => by subst hq; exact XS.istore (g := mkF m pc L (.int x :: S)) X.here K.1 rfl (hb K.2.2.2.1 hd) rfl hl k) r
theorem Go.lstoreN (K : Cx0 bytes maxL ret mn p meth c) (hq : pc + 1 = q) {k : Fin 4} {x : Int64} {L' : Array Slot} (hd : decode bytes pc = .ok (.lstore_n k, 1)) (hl : storeLocals L k.val (.long x) = some L') (r : Go p l e R s m args below meth c Z own cl xs0 n0 kc ks Q xs h cells slots (mkF m q L' S)) : Go p l e R s m args below meth c Z own cl xs0 n0 kc ks Q xs h cells slots (mkF m pc L (.long x :: S)) := Go.of_step K (fun s' K T locs X _ t k => by subst hq; exact XS.lstoreN (g := mkF m pc L (.long x :: S)) X.here K.1 rfl (hb K.2.2.2.1 hd) rfl hl k) r
theorem Go.lstore (K : Cx0 bytes maxL ret mn p meth c) (hq : pc + 2 = q) {k : Nat} {x : Int64} {L' : Array Slot} (hd : decode bytes pc = .ok (.lstore k, 2)) (hl : storeLocals L k (.long x) = some L') (r : Go p l e R s m args below meth c Z own cl xs0 n0 kc ks Q xs h cells slots (mkF m q L' S)) : Go p l e R s m args below meth c Z own cl xs0 n0 kc ks Q xs h cells slots (mkF m pc L (.long x :: S)) := Go.of_step K (fun s' K T locs X _ t k => by subst hq; exact XS.lstore (g := mkF m pc L (.long x :: S)) X.here K.1 rfl (hb K.2.2.2.1 hd) rfl hl k) r
theorem Go.astoreN (K : Cx0 bytes maxL ret mn p meth c) (hq : pc + 1 = q) {k : Fin 4} {x : Value} {L' : Array Slot} (hd : decode bytes pc = .ok (.astore_n k, 1)) (hv : x.isRef = true) (hl : storeLocals L k.val x = some L') (r : Go p l e R s m args below meth c Z own cl xs0 n0 kc ks Q xs h cells slots (mkF m q L' S)) : Go p l e R s m args below meth c Z own cl xs0 n0 kc ks Q xs h cells slots (mkF m pc L (x :: S)) := Go.of_step K (fun s' K T locs X _ t k => by subst hq; exact XS.astoreN (g := mkF m pc L (x :: S)) X.here K.1 rfl (hb K.2.2.2.1 hd) rfl hv hl k) r
theorem Go.astore (K : Cx0 bytes maxL ret mn p meth c) (hq : pc + 2 = q) {k : Nat} {x : Value} {L' : Array Slot} (hd : decode bytes pc = .ok (.astore k, 2)) (hv : x.isRef = true) (hl : storeLocals L k x = some L') (r : Go p l e R s m args below meth c Z own cl xs0 n0 kc ks Q xs h cells slots (mkF m q L' S)) : Go p l e R s m args below meth c Z own cl xs0 n0 kc ks Q xs h cells slots (mkF m pc L (x :: S)) := Go.of_step K (fun s' K T locs X _ t k => by subst hq; exact XS.astore (g := mkF m pc L (x :: S)) X.here K.1 rfl (hb K.2.2.2.1 hd) rfl hv hl k) r
theorem Go.iinc (K : Cx0 bytes maxL ret mn p meth c) (hq : pc + 3 = q) {k : Nat} {cst : Int} {x y : Int32} {L' : Array Slot} (hy : Int32.ofInt cst = y) (hd : decode bytes pc = .ok (.iinc k cst, 3)) (hl0 : L[k]? = some (.val (.int x))) (hl : storeLocals L k (.int (x + y)) = some L') (r : Go p l e R s m args below meth c Z own cl xs0 n0 kc ks Q xs h cells slots (mkF m q L' S)) : Go p l e R s m args below meth c Z own cl xs0 n0 kc ks Q xs h cells slots (mkF m pc L S) := Go.of_step K (fun s' K T locs X _ t k => by subst hq hy; exact XS.iinc (g := mkF m pc L S) X.here K.1 rfl (hb K.2.2.2.1 hd) hl0 hl k) r
theorem Go.goto (K : Cx0 bytes maxL ret mn p meth c) {o : Int} (ho : 0 ≤ (pc : Int) + o) (hq : ((pc : Int) + o).toNat = q) (hd : decode bytes pc = .ok (.goto o, 3)) (r : Go p l e R s m args below meth c Z own cl xs0 n0 kc ks Q xs h cells slots (mkF m q L S)) : Go p l e R s m args below meth c Z own cl xs0 n0 kc ks Q xs h cells slots (mkF m pc L S) := Go.of_step K (fun s' K T locs X _ t k => XS.goto (g := mkF m pc L S) X.here K.1 rfl (pc0 := pc) (pc' := q) rfl (hb K.2.2.2.1 hd) ho hq k) r
theorem Go.ifY (K : Cx0 bytes maxL ret mn p meth c) {o : Int} {cd : ClassFile.Cond} {x : Int32} (ho : 0 ≤ (pc : Int) + o) (hq : ((pc : Int) + o).toNat = q) (hd : decode bytes pc = .ok (.ifCond cd o, 3)) (hc : cdP cd x 0) (r : Go p l e R s m args below meth c Z own cl xs0 n0 kc ks Q xs h cells slots (mkF m q L S)) : Go p l e R s m args below meth c Z own cl xs0 n0 kc ks Q xs h cells slots (mkF m pc L (.int x :: S)) := Go.of_step K (fun s' K T locs X _ t k => XS.ifYes (g := mkF m pc L (.int x :: S)) X.here K.1 rfl (pc0 := pc) (pc' := q) rfl (hb K.2.2.2.1 hd) rfl ((if0 _ _).trans (cd_yes hc)) ho hq k) r
theorem Go.ifN (K : Cx0 bytes maxL ret mn p meth c) {o : Int} {cd : ClassFile.Cond} {x : Int32} (hq : pc + 3 = q) (hd : decode bytes pc = .ok (.ifCond cd o, 3)) (hc : cdN cd x 0) (r : Go p l e R s m args below meth c Z own cl xs0 n0 kc ks Q xs h cells slots (mkF m q L S)) : Go p l e R s m args below meth c Z own cl xs0 n0 kc ks Q xs h cells slots (mkF m pc L (.int x :: S)) := Go.of_step K (fun s' K T locs X _ t k => by subst hq; exact XS.ifNo (g := mkF m pc L (.int x :: S)) X.here K.1 rfl (hb K.2.2.2.1 hd) rfl ((if0 _ _).trans (cd_no hc)) k) r
theorem Go.icmpY (K : Cx0 bytes maxL ret mn p meth c) {o : Int} {cd : ClassFile.Cond} {x y : Int32} (ho : 0 ≤ (pc : Int) + o) (hq : ((pc : Int) + o).toNat = q) (hd : decode bytes pc = .ok (.if_icmp cd o, 3)) (hc : cdP cd x y) (r : Go p l e R s m args below meth c Z own cl xs0 n0 kc ks Q xs h cells slots (mkF m q L S)) : Go p l e R s m args below meth c Z own cl xs0 n0 kc ks Q xs h cells slots (mkF m pc L (.int y :: .int x :: S)) := Go.of_step K (fun s' K T locs X _ t k => XS.icmpYes (g := mkF m pc L (.int y :: .int x :: S)) X.here K.1 rfl (pc0 := pc) (pc' := q) rfl (hb K.2.2.2.1 hd) rfl (cd_yes hc) ho hq k) r
theorem Go.icmpN (K : Cx0 bytes maxL ret mn p meth c) {o : Int} {cd : ClassFile.Cond} {x y : Int32} (hq : pc + 3 = q) (hd : decode bytes pc = .ok (.if_icmp cd o, 3)) (hc : cdN cd x y) (r : Go p l e R s m args below meth c Z own cl xs0 n0 kc ks Q xs h cells slots (mkF m q L S)) : Go p l e R s m args below meth c Z own cl xs0 n0 kc ks Q xs h cells slots (mkF m pc L (.int y :: .int x :: S)) := Go.of_step K (fun s' K T locs X _ t k => by subst hq; exact XS.icmpNo (g := mkF m pc L (.int y :: .int x :: S)) X.here K.1 rfl (hb K.2.2.2.1 hd) rfl (cd_no hc) k) r
theorem Go.ifc (K : Cx0 bytes maxL ret mn p meth c) {o : Int} {cd : ClassFile.Cond} {x : Int32} {q' : Nat} (ho : 0 ≤ (pc : Int) + o) (hq : ((pc : Int) + o).toNat = q) (hq' : pc + 3 = q') (hd : decode bytes pc = .ok (.ifCond cd o, 3)) (r : cdP cd x 0 → Go p l e R s m args below meth c Z own cl xs0 n0 kc ks Q xs h cells slots (mkF m q L S)) (r' : cdN cd x 0 → Go p l e R s m args below meth c Z own cl xs0 n0 kc ks Q xs h cells slots (mkF m q' L S)) : Go p l e R s m args below meth c Z own cl xs0 n0 kc ks Q xs h cells slots (mkF m pc L (.int x :: S)) :=
  (cd_em cd x 0).elim (fun hc => Go.ifY K ho hq hd hc (r hc)) (fun hc => Go.ifN K hq' hd hc (r' hc))
theorem Go.icmp (K : Cx0 bytes maxL ret mn p meth c) {o : Int} {cd : ClassFile.Cond} {x y : Int32} {q' : Nat} (ho : 0 ≤ (pc : Int) + o) (hq : ((pc : Int) + o).toNat = q) (hq' : pc + 3 = q') (hd : decode bytes pc = .ok (.if_icmp cd o, 3)) (r : cdP cd x y → Go p l e R s m args below meth c Z own cl xs0 n0 kc ks Q xs h cells slots (mkF m q L S)) (r' : cdN cd x y → Go p l e R s m args below meth c Z own cl xs0 n0 kc ks Q xs h cells slots (mkF m q' L S)) : Go p l e R s m args below meth c Z own cl xs0 n0 kc ks Q xs h cells slots (mkF m pc L (.int y :: .int x :: S)) :=
  (cd_em cd x y).elim (fun hc => Go.icmpY K ho hq hd hc (r hc)) (fun hc => Go.icmpN K hq' hd hc (r' hc))
theorem Go.ifnullY (K : Cx0 bytes maxL ret mn p meth c) {o : Int} (ho : 0 ≤ (pc : Int) + o) (hq : ((pc : Int) + o).toNat = q) (hd : decode bytes pc = .ok (.ifnull o, 3)) (r : Go p l e R s m args below meth c Z own cl xs0 n0 kc ks Q xs h cells slots (mkF m q L S)) : Go p l e R s m args below meth c Z own cl xs0 n0 kc ks Q xs h cells slots (mkF m pc L (.null :: S)) := Go.of_step K (fun s' K T locs X _ t k => XS.ifnullYes (g := mkF m pc L (.null :: S)) X.here K.1 rfl (pc0 := pc) (pc' := q) rfl (hb K.2.2.2.1 hd) rfl ho hq k) r
theorem Go.ifnullN (K : Cx0 bytes maxL ret mn p meth c) {o : Int} {b : Addr} (hq : pc + 3 = q) (hd : decode bytes pc = .ok (.ifnull o, 3)) (r : Go p l e R s m args below meth c Z own cl xs0 n0 kc ks Q xs h cells slots (mkF m q L S)) : Go p l e R s m args below meth c Z own cl xs0 n0 kc ks Q xs h cells slots (mkF m pc L (.ref b :: S)) := Go.of_step K (fun s' K T locs X _ t k => by subst hq; exact XS.ifnullNo (g := mkF m pc L (.ref b :: S)) X.here K.1 rfl (hb K.2.2.2.1 hd) rfl k) r
theorem Go.ifnonnullY (K : Cx0 bytes maxL ret mn p meth c) {o : Int} {b : Addr} (ho : 0 ≤ (pc : Int) + o) (hq : ((pc : Int) + o).toNat = q) (hd : decode bytes pc = .ok (.ifnonnull o, 3)) (r : Go p l e R s m args below meth c Z own cl xs0 n0 kc ks Q xs h cells slots (mkF m q L S)) : Go p l e R s m args below meth c Z own cl xs0 n0 kc ks Q xs h cells slots (mkF m pc L (.ref b :: S)) := Go.of_step K (fun s' K T locs X _ t k => XS.ifnonnullYes (g := mkF m pc L (.ref b :: S)) X.here K.1 rfl (pc0 := pc) (pc' := q) rfl (hb K.2.2.2.1 hd) rfl ho hq k) r
theorem Go.ifnonnullN (K : Cx0 bytes maxL ret mn p meth c) {o : Int} (hq : pc + 3 = q) (hd : decode bytes pc = .ok (.ifnonnull o, 3)) (r : Go p l e R s m args below meth c Z own cl xs0 n0 kc ks Q xs h cells slots (mkF m q L S)) : Go p l e R s m args below meth c Z own cl xs0 n0 kc ks Q xs h cells slots (mkF m pc L (.null :: S)) := Go.of_step K (fun s' K T locs X _ t k => by subst hq; exact XS.ifnonnullNo (g := mkF m pc L (.null :: S)) X.here K.1 rfl (hb K.2.2.2.1 hd) rfl k) r
theorem Go.acmp (K : Cx0 bytes maxL ret mn p meth c) {o : Int} {cd : ACond} {x y : Value} (h1 : x.isRef = true) (h2 : y.isRef = true) {same : Bool} (hs : decide (x = y) = same) (ho : 0 ≤ (pc : Int) + o) (hq : q = if acV cd same = true then ((pc : Int) + o).toNat else pc + 3) (hd : decode bytes pc = .ok (.if_acmp cd o, 3)) (r : Go p l e R s m args below meth c Z own cl xs0 n0 kc ks Q xs h cells slots (mkF m q L S)) : Go p l e R s m args below meth c Z own cl xs0 n0 kc ks Q xs h cells slots (mkF m pc L (y :: x :: S)) := Go.of_step K (fun s' K T locs X _ t k => Jvm.RoadKit.acmp (g := mkF m pc L (y :: x :: S)) X K.1 rfl h1 h2 (pc0 := pc) (pc' := q) rfl (hb K.2.2.2.1 hd) rfl hs ho hq k) r
theorem Go.getF (K : Cx0 bytes maxL ret mn p meth c) (hq : pc + 3 = q) {R0 O n d : String} {i : Nat} (w : (Cond.fieldLink own i R0 n d).before a0 Z = true) (via : Via Z R0 O n d) {a : Addr} {v : Value} (F : Fld Z h a O n d v) (hd : decode bytes pc = .ok (.getfield i, 3)) (r : Go p l e R s m args below meth c Z own cl xs0 n0 kc ks Q xs h cells slots (mkF m q L (v :: S))) : Go p l e R s m args below meth c Z own cl xs0 n0 kc ks Q xs h cells slots (mkF m pc L (.ref a :: S)) :=
  Go.of_warm K (fun s' K T locs X eT => by subst hq; exact Jvm.RoadKit.getF X K.1 K.2.1 K.2.2.1 (host := "") (Or.inl w) via eT F (g := mkF m pc L (.ref a :: S)) rfl rfl (hb K.2.2.2.1 hd)) r
theorem Go.getS (K : Cx0 bytes maxL ret mn p meth c) (hq : pc + 3 = q) {R0 O n d : String} {i : Nat} (w : (Cond.fieldLink own i R0 n d).before a0 Z = true) (via : Via Z R0 O n d) {v : Value} (F : Sta Z h O n d v) (hd : decode bytes pc = .ok (.getstatic i, 3)) (r : Go p l e R s m args below meth c Z own cl xs0 n0 kc ks Q xs h cells slots (mkF m q L (v :: S))) : Go p l e R s m args below meth c Z own cl xs0 n0 kc ks Q xs h cells slots (mkF m pc L S) :=
  Go.of_warm K (fun s' K T locs X eT => by subst hq; exact Jvm.RoadKit.getS (host := "") X K.1 K.2.1 K.2.2.1 w via eT F (g := mkF m pc L S) rfl (hb K.2.2.2.1 hd)) r
theorem Go.castY (K : Cx0 bytes maxL ret mn p meth c) (hq : pc + 3 = q) {C : String} {i : Nat} (w : (Cond.classLink own i C).before a0 Z = true) {a : Addr} (F : Ins Z h a C true) (hd : decode bytes pc = .ok (.checkcast i, 3)) (r : Go p l e R s m args below meth c Z own cl xs0 n0 kc ks Q xs h cells slots (mkF m q L (.ref a :: S))) : Go p l e R s m args below meth c Z own cl xs0 n0 kc ks Q xs h cells slots (mkF m pc L (.ref a :: S)) :=
  Go.of_warm K (fun s' K T locs X eT => by subst hq; exact Jvm.RoadKit.castY X K.1 K.2.1 K.2.2.1 w eT F (g := mkF m pc L (.ref a :: S)) rfl rfl (hb K.2.2.2.1 hd)) r
theorem Go.instY (K : Cx0 bytes maxL ret mn p meth c) (hq : pc + 3 = q) {C : String} {i : Nat} (w : (Cond.classLink own i C).before a0 Z = true) {a : Addr} (F : Ins Z h a C true) (hd : decode bytes pc = .ok (.instanceof i, 3)) (r : Go p l e R s m args below meth c Z own cl xs0 n0 kc ks Q xs h cells slots (mkF m q L (.int 1 :: S))) : Go p l e R s m args below meth c Z own cl xs0 n0 kc ks Q xs h cells slots (mkF m pc L (.ref a :: S)) :=
  Go.of_warm K (fun s' K T locs X eT => by subst hq; exact Jvm.RoadKit.instY X K.1 K.2.1 K.2.2.1 w eT F (g := mkF m pc L (.ref a :: S)) rfl rfl (hb K.2.2.2.1 hd)) r
theorem Go.instNo (K : Cx0 bytes maxL ret mn p meth c) (hq : pc + 3 = q) {C D : String} {i : Nat} (w : (Cond.classLink own i D).before a0 Z = true) {a : Addr} (E : Exa Z h a C) (F : ∃ c t, Z.vm.findClass C = some c ∧ Z.vm.findClass D = some t ∧ Z.vm.assignable c t = false) (hd : decode bytes pc = .ok (.instanceof i, 3)) (r : Go p l e R s m args below meth c Z own cl xs0 n0 kc ks Q xs h cells slots (mkF m q L (.int 0 :: S))) : Go p l e R s m args below meth c Z own cl xs0 n0 kc ks Q xs h cells slots (mkF m pc L (.ref a :: S)) :=
  Go.of_warm K (fun s' K T locs X eT => by subst hq; exact Jvm.RoadKit.instNo X K.1 K.2.1 K.2.2.1 w eT E F (g := mkF m pc L (.ref a :: S)) rfl rfl (hb K.2.2.2.1 hd)) r
theorem Go.instNull (K : Cx0 bytes maxL ret mn p meth c) (hq : pc + 3 = q) {i : Nat} (hd : decode bytes pc = .ok (.instanceof i, 3)) (r : Go p l e R s m args below meth c Z own cl xs0 n0 kc ks Q xs h cells slots (mkF m q L (.int 0 :: S))) : Go p l e R s m args below meth c Z own cl xs0 n0 kc ks Q xs h cells slots (mkF m pc L (.null :: S)) :=
  Go.of_step K (fun s' K T locs X _ t k => by subst hq; exact X.instanceofNull K.1 (g := mkF m pc L (.null :: S)) rfl rfl (hb K.2.2.2.1 hd) _ k) r
theorem Go.castNull (K : Cx0 bytes maxL ret mn p meth c) (hq : pc + 3 = q) {i : Nat} (hd : decode bytes pc = .ok (.checkcast i, 3)) (r : Go p l e R s m args below meth c Z own cl xs0 n0 kc ks Q xs h cells slots (mkF m q L (.null :: S))) : Go p l e R s m args below meth c Z own cl xs0 n0 kc ks Q xs h cells slots (mkF m pc L (.null :: S)) :=
  Go.of_step K (fun s' K T locs X _ t k => by subst hq; exact X.checkcastNull K.1 (g := mkF m pc L (.null :: S)) rfl rfl (hb K.2.2.2.1 hd) _ k) r
theorem Go.caload (K : Cx0 bytes maxL ret mn p meth c) (hq : pc + 1 = q) {a : Addr} {k : ClassId} {z j : Int32} {vs : List Value} {dv v : Value} (A : Arv Z h a k .char z vs dv) (hd : decode bytes pc = .ok (.caload, 1)) (hj : ¬ j < 0 ∧ j < z) (hv : vs.getD j.toNatClampNeg dv = v) (r : Go p l e R s m args below meth c Z own cl xs0 n0 kc ks Q xs h cells slots (mkF m q L (v :: S))) : Go p l e R s m args below meth c Z own cl xs0 n0 kc ks Q xs h cells slots (mkF m pc L (.int j :: .ref a :: S)) :=
  Go.of_step K (fun s' K T locs X eT t kk => by
    subst hq
    obtain ⟨cl, A1, A2, A3, A4, A5, A6⟩ := A
    exact X.caload K.1 (by rw [eT]; exact A1.1) (State.isArrayOf_alike K.2.1.alike A1.2.1) A1.2.2 (inb_of A3 hj) (A5.at (inb_of A3 hj) hv) (g := mkF m pc L (.int j :: .ref a :: S)) rfl rfl (hb K.2.2.2.1 hd) _ kk) r
theorem Go.baload (K : Cx0 bytes maxL ret mn p meth c) (hq : pc + 1 = q) {a : Addr} {k : ClassId} {z j : Int32} {vs : List Value} {dv v : Value} (A : Arv Z h a k .byte z vs dv) (hd : decode bytes pc = .ok (.baload, 1)) (hj : ¬ j < 0 ∧ j < z) (hv : vs.getD j.toNatClampNeg dv = v) (r : Go p l e R s m args below meth c Z own cl xs0 n0 kc ks Q xs h cells slots (mkF m q L (v :: S))) : Go p l e R s m args below meth c Z own cl xs0 n0 kc ks Q xs h cells slots (mkF m pc L (.int j :: .ref a :: S)) :=
  Go.of_step K (fun s' K T locs X eT t kk => by
    subst hq
    obtain ⟨cl, A1, A2, A3, A4, A5, A6⟩ := A
    exact X.baloadBytes K.1 (by rw [eT]; exact A1.1) (State.isArrayOf_alike K.2.1.alike A1.2.1) A1.2.2 (inb_of A3 hj) (A5.at (inb_of A3 hj) hv) (g := mkF m pc L (.int j :: .ref a :: S)) rfl rfl (hb K.2.2.2.1 hd) _ kk) r
theorem Go.aaload (K : Cx0 bytes maxL ret mn p meth c) (hq : pc + 1 = q) {a : Addr} {k : ClassId} {ty : FieldType} {z j : Int32} {vs : List Value} {dv v : Value} (A : Arv Z h a k ty z vs dv) (hty : ty.isReference = true) (hd : decode bytes pc = .ok (.aaload, 1)) (hj : ¬ j < 0 ∧ j < z) (hv : vs.getD j.toNatClampNeg dv = v) (r : Go p l e R s m args below meth c Z own cl xs0 n0 kc ks Q xs h cells slots (mkF m q L (v :: S))) : Go p l e R s m args below meth c Z own cl xs0 n0 kc ks Q xs h cells slots (mkF m pc L (.int j :: .ref a :: S)) :=
  Go.of_step K (fun s' K T locs X eT t kk => by
    subst hq
    obtain ⟨cl, A1, A2, A3, A4, A5, A6⟩ := A
    exact X.aaload K.1 (by rw [eT]; exact A1.1) (State.isArrayOf_alike K.2.1.alike A1.2.1) hty A1.2.2 (inb_of A3 hj) (A5.at (inb_of A3 hj) hv) (g := mkF m pc L (.int j :: .ref a :: S)) rfl rfl (hb K.2.2.2.1 hd) _ kk) r
theorem Go.aaloadC (K : Cx0 bytes maxL ret mn p meth c) (hq : pc + 1 = q) {a : Addr} {ty : FieldType} {j : Int32} {ce : Cell} {v : Value} (A : Arr Z h a ce ty) (hty : ty.isReference = true) (hd : decode bytes pc = .ok (.aaload, 1)) (hj : ¬ (j < 0 ∨ ce.slots.size ≤ j.toNatClampNeg)) (hv : ce.slots[j.toNatClampNeg]? = some v) (r : Go p l e R s m args below meth c Z own cl xs0 n0 kc ks Q xs h cells slots (mkF m q L (v :: S))) : Go p l e R s m args below meth c Z own cl xs0 n0 kc ks Q xs h cells slots (mkF m pc L (.int j :: .ref a :: S)) :=
  Go.of_step K (fun s' K T locs X eT t kk => by
    subst hq
    exact X.aaload K.1 (by rw [eT]; exact A.1) (State.isArrayOf_alike K.2.1.alike A.2.1) hty A.2.2 hj hv (g := mkF m pc L (.int j :: .ref a :: S)) rfl rfl (hb K.2.2.2.1 hd) _ kk) r
theorem Go.alen (K : Cx0 bytes maxL ret mn p meth c) (hq : pc + 1 = q) {a : Addr} {k : ClassId} {ty : FieldType} {z : Int32} {vs : List Value} {dv : Value} (A : Arv Z h a k ty z vs dv) (hd : decode bytes pc = .ok (.arraylength, 1)) (r : Go p l e R s m args below meth c Z own cl xs0 n0 kc ks Q xs h cells slots (mkF m q L (.int z :: S))) : Go p l e R s m args below meth c Z own cl xs0 n0 kc ks Q xs h cells slots (mkF m pc L (.ref a :: S)) :=
  Go.of_step K (fun s' K T locs X eT t kk => by
    subst hq
    obtain ⟨cl, A1, A2, A3, A4, A5, A6⟩ := A
    refine X.arraylength K.1 (by rw [eT]; exact A1.1) (State.isArrayOf_alike K.2.1.alike A1.2.1) (g := mkF m pc L (.ref a :: S)) rfl rfl (hb K.2.2.2.1 hd) _ ?_
    rw [len_of A3 A4]; exact kk) r
theorem Go.initO (K : Cx0 bytes maxL ret mn p meth c) (hq : pc + 3 = q) {i : Nat} (w1 : (Cond.methodLink own i Lib.objectInit).before a0 Z = true) (w2 : (Cond.instanceMethod Lib.objectInit).before a0 Z = true) (w3 : (Cond.code Lib.objectInit ⟨#[0xb1]⟩ 1 none).before a0 Z = true) {a : Addr} (hsz : L.size = maxL) (hd : decode bytes pc = .ok (.invokespecial i, 3)) (hf : 1 ≤ R.frames) {W : Nat} (hW : (S.map fun v => v.category).sum ≤ W) (hl : W + 12 ≤ R.locals)
    (r : Go p l e R s m args below meth c Z own cl xs0 n0 kc ks Q xs h cells slots (mkF m q L S)) : Go p l e R s m args below meth c Z own cl xs0 n0 kc ks Q xs h cells slots (mkF m pc L (.ref a :: S)) :=
  Go.of_warm K (fun s' K T locs X eT => by subst hq; exact Jvm.RoadKit.initO X K.1 K.2.1 K.2.2.1 w1 w2 w3 eT (g := mkF m pc L (.ref a :: S)) rfl (hsz.trans K.2.2.2.2.1.symm) rfl (hb K.2.2.2.1 hd) hf (W := W) (by show 2 * 0 + _ ≤ _; omega) hl) r
/-! ends -/
theorem Go.end_ {f : JFrame} (K : Cx0 bytes maxL ret mn p meth c) {v : Option Value} (hv : ret = none → v = none) (hk : cells ≤ kc) (hs : slots ≤ ks) (hx : ∀ x ∈ xs0, x ∈ xs) (hQ : Q v h)
    (st : ∀ s', Cx Z own bytes maxL ret mn p s' m meth c → ∀ T locs, Stand p l e R s' m args below meth c T locs cells slots → ∀ fs, (∀ (f : JFrame) (acts : List Action), f.method = m → f.locked = none → f.entered = [] → (doReturn e (T.setTop f) acts v).1 = T.setFrames fs) → Steps p.tables e below (T.setTop f) (T.setFrames fs)) : Go p l e R s m args below meth c Z own cl xs0 n0 kc ks Q xs h cells slots f := fun T locs vm0 k0 X hS hkk hZ ho eT N H => by
  obtain ⟨fs, hr, hrun, hended, e1, e2, e3, e4⟩ := X.leaveW hS (by rw [eT]; exact hkk) (v := v) (fun q => hv (K.2.2.2.1.symm.trans q)) K.2.2.2.2.1
  exact ⟨_, _, st (s.setVm vm0) (K.at hZ ho) T locs X fs hr, hrun, hended, v, locs, rfl, ⟨by show Q v T.heap; rw [eT]; exact hQ, by show Lits Z cl xs0 T.vm T.heap; rw [eT]; exact (H.step (s := s.setVm vm0) rfl X.warmed.wide (Or.inl X.warmed.interned_eq)).sub hx, N⟩, e1, e2, e3, e4.mono hk hs⟩
theorem Go.retV (K : Cx0 bytes maxL none mn p meth c) (hd : decode bytes pc = .ok (.return_, 1)) (hk : cells ≤ kc) (hs : slots ≤ ks) (hx : ∀ x ∈ xs0, x ∈ xs) (hQ : Q none h) : Go p l e R s m args below meth c Z own cl xs0 n0 kc ks Q xs h cells slots (mkF m pc L []) :=
  Go.end_ K (fun _ => rfl) hk hs hx hQ fun s' K T locs X fs hr => X.returnOut K.1 K.2.2.2.2.2.1 (hb K.2.2.2.1 hd) hr
theorem Go.retN {t : FieldType} {z : Int32} (K : Cx0 bytes maxL (some t) mn p meth c) (ht : t = .boolean ∨ t = .byte ∨ t = .char ∨ t = .short) (hd : decode bytes pc = .ok (.ireturn, 1)) (hk : cells ≤ kc) (hs : slots ≤ ks) (hx : ∀ x ∈ xs0, x ∈ xs) (hQ : Q (some (.int (nar t z))) h) : Go p l e R s m args below meth c Z own cl xs0 n0 kc ks Q xs h cells slots (mkF m pc L (.int z :: S)) :=
  Go.end_ K (fun q => by cases q) hk hs hx hQ fun s' K T locs X fs hr => Jvm.RoadKit.retN X K.1 K.2.2.2.2.2.1 ht (hb K.2.2.2.1 hd) hr
theorem Go.retI {z : Int32} (K : Cx0 bytes maxL (some .int) mn p meth c) (hd : decode bytes pc = .ok (.ireturn, 1)) (hk : cells ≤ kc) (hs : slots ≤ ks) (hx : ∀ x ∈ xs0, x ∈ xs) (hQ : Q (some (.int z)) h) : Go p l e R s m args below meth c Z own cl xs0 n0 kc ks Q xs h cells slots (mkF m pc L [.int z]) :=
  Go.end_ K (fun q => by cases q) hk hs hx hQ fun s' K T locs X fs hr => X.ireturnOut K.1 K.2.2.2.2.2.1 rfl (Or.inl rfl) (hb K.2.2.2.1 hd) hr
theorem Go.retA {t : FieldType} {w : Value} (K : Cx0 bytes maxL (some t) mn p meth c) (ht : t.isReference = true) (hw : w.isRef = true) (hd : decode bytes pc = .ok (.areturn, 1)) (hk : cells ≤ kc) (hs : slots ≤ ks) (hx : ∀ x ∈ xs0, x ∈ xs) (hQ : Q (some w) h) : Go p l e R s m args below meth c Z own cl xs0 n0 kc ks Q xs h cells slots (mkF m pc L [w]) :=
  Go.end_ K (fun q => by cases q) hk hs hx hQ fun s' K T locs X fs hr => X.areturnOut K.1 hw K.2.2.2.2.2.1 ht (hb K.2.2.2.1 hd) hr
theorem Go.retJ {z : Int64} (K : Cx0 bytes maxL (some .long) mn p meth c) (hd : decode bytes pc = .ok (.lreturn, 1)) (hk : cells ≤ kc) (hs : slots ≤ ks) (hx : ∀ x ∈ xs0, x ∈ xs) (hQ : Q (some (.long z)) h) : Go p l e R s m args below meth c Z own cl xs0 n0 kc ks Q xs h cells slots (mkF m pc L [.long z]) :=
  Go.end_ K (fun q => by cases q) hk hs hx hQ fun s' K T locs X fs hr => X.lreturnOut K.1 K.2.2.2.2.2.1 (hb K.2.2.2.1 hd) hr
/-! the heap -/
theorem Go.putF (K : Cx0 bytes maxL ret mn p meth c) (hq : pc + 3 = q) {R0 O n d C : String} {i kk : Nat} {ty : FieldType} (w : (Cond.fieldLink own i R0 n d).before a0 Z = true) (via : Via Z R0 O n d) {a : Addr} {v old : Value} (F : Fld Z h a O n d old) (E : Exa Z h a C) (Ly : (Cond.lays C O n d).before a0 Z = true ∨ ((Cond.laysFinal C O n d).before a0 Z = true ∧ own = O ∧ mn = "<init>")) (wi : (Cond.instantiable C kk).before a0 Z = true)
    (hty : parseFieldDescriptor d = some ty) (hn : narrow ty v = v) (hf : fits ty v = true) (hd : decode bytes pc = .ok (.putfield i, 3)) (ha : n0 ≤ a) (hax : a ∈ xs) (r : ∀ h', Wr h h' a (Jvm.RoadKit.slotOf Z O n d) v → Fld Z h' a O n d v → Exa Z h' a C → Go p l e R s m args below meth c Z own cl xs0 n0 kc ks Q xs h' cells slots (mkF m q L S)) : Go p l e R s m args below meth c Z own cl xs0 n0 kc ks Q xs h cells slots (mkF m pc L (v :: .ref a :: S)) :=
  Go.of_heap (cells' := cells) (slots' := slots) K fun s' K T locs X eT N => by
    subst hq
    obtain ⟨T', h', X', eT', W, st⟩ := Jvm.RoadKit.putF X K.1 K.2.1 K.2.2.1 (host := "") (Or.inl w) via eT F E (Ly.imp id fun z => ⟨z.1, z.2.1, K.2.2.2.2.2.2.2.trans z.2.2⟩) wi hty hn hf (g := mkF m pc L (v :: .ref a :: S)) rfl rfl (hb K.2.2.2.1 hd)
    exact ⟨T', h', _, _, xs, X', eT', Nat.le_of_eq W.size.symm, Fr.snoc X' N ha, fun vm H => H.wr W hax, st, r h' W (F.same W) (E.wr W)⟩
theorem Go.putFN (K : Cx0 bytes maxL ret mn p meth c) (hq : pc + 3 = q) {R0 O n d C : String} {i kk : Nat} {ty : FieldType} (w : (Cond.fieldLink own i R0 n d).before a0 Z = true) (via : Via Z R0 O n d) {a : Addr} {v v' old : Value} (F : Fld Z h a O n d old) (E : Exa Z h a C) (Ly : (Cond.lays C O n d).before a0 Z = true ∨ ((Cond.laysFinal C O n d).before a0 Z = true ∧ own = O ∧ mn = "<init>")) (wi : (Cond.instantiable C kk).before a0 Z = true)
    (hty : parseFieldDescriptor d = some ty) (hn : narrow ty v = v') (hf : fits ty v' = true) (hd : decode bytes pc = .ok (.putfield i, 3)) (ha : n0 ≤ a) (hax : a ∈ xs) (r : ∀ h', Wr h h' a (Jvm.RoadKit.slotOf Z O n d) v' → Fld Z h' a O n d v' → Exa Z h' a C → Go p l e R s m args below meth c Z own cl xs0 n0 kc ks Q xs h' cells slots (mkF m q L S)) : Go p l e R s m args below meth c Z own cl xs0 n0 kc ks Q xs h cells slots (mkF m pc L (v :: .ref a :: S)) :=
  Go.of_heap (cells' := cells) (slots' := slots) K fun s' K T locs X eT N => by
    subst hq
    obtain ⟨T', h', X', eT', W, st⟩ := Jvm.RoadKit.putFN X K.1 K.2.1 K.2.2.1 w via eT F E (Ly.imp id fun z => ⟨z.1, z.2.1, K.2.2.2.2.2.2.2.trans z.2.2⟩) wi hty hn hf (g := mkF m pc L (v :: .ref a :: S)) rfl rfl (hb K.2.2.2.1 hd)
    exact ⟨T', h', _, _, xs, X', eT', Nat.le_of_eq W.size.symm, Fr.snoc X' N ha, fun vm H => H.wr W hax, st, r h' W (F.same W) (E.wr W)⟩
theorem Go.new (K : Cx0 bytes maxL ret mn p meth c) (hq : pc + 3 = q) {C : String} {i k : Nat} {cells' slots' : Nat} (w : (Cond.classLink own i C).before a0 Z = true) (wi : (Cond.instantiable C k).before a0 Z = true) (wz : (Cond.initialized C).before a0 Z = true) (hd : decode bytes pc = .ok (.new i, 3)) (hc : cells + 1 = cells') (hs : slots + k = slots') (hc' : cells' ≤ R.cells) (hs' : slots' ≤ R.slots)
    (r : ∀ h' a, a = h.size → Ext h h' → Exa Z h' a C → (∀ {O nm d : String} {ty : FieldType}, Laid Z a0 C O nm d → parseFieldDescriptor d = some ty → Fld Z h' a O nm d (defaultValue ty)) → Go p l e R s m args below meth c Z own cl xs0 n0 kc ks Q (a :: xs) h' cells' slots' (mkF m q L (.ref a :: S))) : Go p l e R s m args below meth c Z own cl xs0 n0 kc ks Q xs h cells slots (mkF m pc L S) :=
  Go.of_heap (cells' := cells') (slots' := slots') K fun s' K T locs X eT N => by
    subst hq hc hs
    obtain ⟨T', h', X', eT', E, A, D, -, st⟩ := newO X K.1 K.2.1 K.2.2.1 w wi wz eT (g := mkF m pc L S) rfl (hb K.2.2.2.1 hd) hc' hs'
    exact ⟨T', h', _, _, h.size :: xs, X', eT', E.1, N, fun vm H => H.cons (Nat.le_refl _) E A.lt, st, r h' _ rfl E A D⟩
theorem Go.newarr (K : Cx0 bytes maxL ret mn p meth c) (hq : pc + 2 = q) {aty : ArrayType} {z : Int32} {cap cells' slots' : Nat} (w : (Cond.arrayClass (newarray.typeOf aty)).before a0 Z = true) (hd : decode bytes pc = .ok (.newarray aty, 2)) (hz : ¬ z < 0) (hcap : z.toNatClampNeg ≤ cap) (hb8 : cap * 8 ≤ 536870912) (hc : cells + 1 = cells') (hs : slots + cap = slots') (hc' : cells' ≤ R.cells) (hs' : slots' ≤ R.slots)
    (r : ∀ h' a k, a = h.size → Ext h h' → Arv Z h' a k (newarray.typeOf aty) z (List.replicate z.toNatClampNeg (defaultValue (newarray.typeOf aty))) (defaultValue (newarray.typeOf aty)) → Go p l e R s m args below meth c Z own cl xs0 n0 kc ks Q (a :: xs) h' cells' slots' (mkF m q L (.ref a :: S))) : Go p l e R s m args below meth c Z own cl xs0 n0 kc ks Q xs h cells slots (mkF m pc L (.int z :: S)) :=
  Go.of_heap (cells' := cells') (slots' := slots') K fun s' K T locs X eT N => by
    subst hq hc hs
    obtain ⟨T', h', cA, X', eT', E, A, st⟩ := newP X K.1 K.2.1 w eT (g := mkF m pc L (.int z :: S)) rfl (hb K.2.2.2.1 hd) rfl hz hcap hb8 hc' hs'
    exact ⟨T', h', _, _, h.size :: xs, X', eT', E.1, N, fun vm H => H.cons (Nat.le_refl _) E A.lt, st, r h' _ cA rfl E ((Arv.new A hz).pad fun i => by simpa using pad_rep [] (defaultValue (newarray.typeOf aty)) z.toNatClampNeg i)⟩
theorem Go.castore (K : Cx0 bytes maxL ret mn p meth c) (hq : pc + 1 = q) {a : Addr} {k : ClassId} {z j x : Int32} {vs : List Value} {dv : Value} (A : Arv Z h a k .char z vs dv) {i : Nat} (hd : decode bytes pc = .ok (.castore, 1)) (hj : ¬ j < 0 ∧ j < z) (hi : j.toNatClampNeg = i) (hl : i < vs.length) (ha : n0 ≤ a) (hax : a ∈ xs)
    (r : ∀ h', Wr h h' a i (.int (nar .char x)) → Arv Z h' a k .char z (vs.set i (.int (nar .char x))) dv → Go p l e R s m args below meth c Z own cl xs0 n0 kc ks Q xs h' cells slots (mkF m q L S)) : Go p l e R s m args below meth c Z own cl xs0 n0 kc ks Q xs h cells slots (mkF m pc L (.int x :: .int j :: .ref a :: S)) :=
  Go.of_heap (cells' := cells) (slots' := slots) K fun s' K T locs X eT N => by
    subst hq
    obtain ⟨ce, A1, A2, A3, A4, A5, A6⟩ := A
    obtain ⟨T', h', X', eT', W, st⟩ := stC X K.1 K.2.1 eT A1 (j := j) (x := x) (inb_of A3 hj) (g := mkF m pc L (.int x :: .int j :: .ref a :: S)) rfl rfl (hb K.2.2.2.1 hd)
    exact ⟨T', h', _, _, xs, X', eT', Nat.le_of_eq W.size.symm, Fr.snoc X' N ha, fun vm H => H.wr W hax, st, r h' (hi ▸ W) (Arv.set A1 A2 A3 A4 A5 A6 (fits_nar_char _) W i hi hl)⟩
theorem Go.bastore (K : Cx0 bytes maxL ret mn p meth c) (hq : pc + 1 = q) {a : Addr} {k : ClassId} {z j x : Int32} {vs : List Value} {dv : Value} (A : Arv Z h a k .byte z vs dv) {i : Nat} (hd : decode bytes pc = .ok (.bastore, 1)) (hj : ¬ j < 0 ∧ j < z) (hi : j.toNatClampNeg = i) (hl : i < vs.length) (ha : n0 ≤ a) (hax : a ∈ xs)
    (r : ∀ h', Wr h h' a i (.int (nar .byte x)) → Arv Z h' a k .byte z (vs.set i (.int (nar .byte x))) dv → Go p l e R s m args below meth c Z own cl xs0 n0 kc ks Q xs h' cells slots (mkF m q L S)) : Go p l e R s m args below meth c Z own cl xs0 n0 kc ks Q xs h cells slots (mkF m pc L (.int x :: .int j :: .ref a :: S)) :=
  Go.of_heap (cells' := cells) (slots' := slots) K fun s' K T locs X eT N => by
    subst hq
    obtain ⟨ce, A1, A2, A3, A4, A5, A6⟩ := A
    obtain ⟨T', h', X', eT', W, st⟩ := stB X K.1 K.2.1 eT A1 (j := j) (x := x) (inb_of A3 hj) (g := mkF m pc L (.int x :: .int j :: .ref a :: S)) rfl rfl (hb K.2.2.2.1 hd)
    exact ⟨T', h', _, _, xs, X', eT', Nat.le_of_eq W.size.symm, Fr.snoc X' N ha, fun vm H => H.wr W hax, st, r h' (hi ▸ W) (Arv.set A1 A2 A3 A4 A5 A6 (fits_nar_byte _) W i hi hl)⟩
/-- the walk's start moved up to the heap at hand: nothing written yet, nothing made yet, as much room as is left -/
theorem rebase {T : State} {locs : List Loc} (X : Stand p l e R s m args below meth c T locs cells slots) (hc : cells ≤ R.cells) (hs : slots ≤ R.slots) :
    Stand p l e { R with cells := R.cells - cells, slots := R.slots - slots } { s with heap := T.heap, slotsUsed := T.slotsUsed } m args below meth c T [] 0 0 := by
  have hF : ({ s with heap := T.heap, slotsUsed := T.slotsUsed } : State).frames = .invoking m args :: below := X.frames
  have hm' : ({ s with heap := T.heap, slotsUsed := T.slotsUsed } : State).vm.method? m = some meth := X.method
  have hU : ({ s with heap := T.heap, slotsUsed := T.slotsUsed } : State).localsInUse = s.localsInUse := by
    rw [State.localsInUse_invoking hF hm' X.code, State.localsInUse_invoking X.frames X.method X.code]
  have h1 := X.heapSize
  have h2 := X.used
  have hroom : ({ s with heap := T.heap, slotsUsed := T.slotsUsed } : State).hasRoom e.platform { R with cells := R.cells - cells, slots := R.slots - slots } = true := by
    have hr := X.room
    have hb := X.book
    simp only [State.hasRoom, Bool.and_eq_true, decide_eq_true_eq] at hr ⊢
    rw [hU]
    obtain ⟨⟨⟨⟨r1, r2⟩, r3⟩, r4⟩, r5⟩ := hr
    exact ⟨⟨⟨⟨r1, r2⟩, by show T.heap.size + (R.cells - cells) ≤ _; omega⟩, by show T.slotsUsed + (R.slots - slots) ≤ _; omega⟩, hb⟩
  have hears : ({ s with heap := T.heap, slotsUsed := T.slotsUsed } : State).hears m below = true := X.hears
  obtain ⟨q1, -⟩ := X.same
  refine ⟨X.admits, X.cas, X.clock, hF, hroom, hears, hm', X.code, X.here, X.tail, X.warmed, X.limits, X.bytes, ?_, Nat.le_refl _, Nat.le_refl _, ?_, ?_, fun a c' hc' => ⟨c', hc', rfl, rfl, fun _ _ => rfl⟩⟩
  · exact q1
  · show T.slotsUsed = T.slotsUsed + ((T.heap.toList.drop T.heap.size).map (·.slots.size)).sum
    rw [List.drop_eq_nil_of_le (by simp)]; simp
  · show ((T.heap.toList.drop T.heap.size).map (·.slots.size)).sum ≤ 0
    rw [List.drop_eq_nil_of_le (by simp)]; simp
theorem thread_of {fr : Frame} {r : List Frame} (h : s.frames = fr :: r) : ∃ t, s.threads[s.cur]? = some t := by
  cases q : s.threads[s.cur]? with
  | some t => exact ⟨t, rfl⟩
  | none => simp [State.frames, q] at h
/-- and back again -/
theorem unbase {T T' : State} {locs : List Loc} {vm' : Vm} {k n : Nat} {R' : Room} (X : Stand p l e R s m args below meth c T locs cells slots) (hW : s.Warmed39 vm') (hv : T'.vm = vm') (Y : Stand p l e R' (({ s with heap := T.heap, slotsUsed := T.slotsUsed } : State).setVm vm') m args below meth c T' [] k n) :
    Stand p l e R (s.setVm vm') m args below meth c T' locs (cells + k) (slots + n) := by
  have Xr := X.retabled hW
  have e1 : (s.setVm vm').sameButNew (({ s with heap := T.heap, slotsUsed := T.slotsUsed } : State).setVm vm') locs cells slots := by
    obtain ⟨t, ht⟩ := thread_of X.frames
    obtain ⟨-, q2, q3, q4, q5, q6⟩ := X.same
    refine ⟨?_, q2, q3, q4, q5, q6⟩
    show (({ s with heap := T.heap, slotsUsed := T.slotsUsed } : State).setVm vm') = ({ (s.setVm vm').setFrames (s.setVm vm').frames with heap := T.heap, slotsUsed := T.slotsUsed } : State)
    rw [State.setFrames_self (s := s.setVm vm') ht]
    rfl
  have e2 := e1.trans Y.same
  rw [List.append_nil] at e2
  exact ⟨Xr.admits, Xr.cas, Xr.clock, Xr.frames, Xr.room, Xr.hears, Xr.method, Xr.code, Y.here, Y.tail, by rw [hv]; exact State.WarmedH.refl (s.setVm vm'), Y.limits, Y.bytes, e2⟩
/-- ldc of an entry that is resolved -/
theorem ldc_res {T : State} {locs : List Loc} {vm0 : Vm} {i n : Nat} {a : Addr} {text : String} {units : Array UInt16} (X : Stand p l e R (s.setVm vm0) m args below meth c T locs cells slots) (hx : p.tables.exec = Jvm.exec) (hZ : Z.Warmed39 vm0) (ho : vm0.findClass own = some m.cls) (w : (Cond.stringLink own i text).before a0 Z = true) {k : Class} (hkk : vm0.classes[m.cls]? = some k) (h0 : k.resolved[i]? = some (some (.string a))) (hd : decode c.code pc = .ok (.ldc i, 2)) (hl : Lt Z T.heap xs a units) (H : Lits Z cl xs vm0 T.heap) :
    ∃ (a : Addr) (T' : State), Stand p l e R (s.setVm T'.vm) m args below meth c T' locs (cells + 2) (slots + (n + 4)) ∧ (s.setVm vm0).Since T'.vm T'.heap.size ∧ Ext T.heap T'.heap ∧ Lt Z T'.heap xs a units ∧ Lits Z cl xs T'.vm T'.heap ∧ ∀ t, Steps p.tables e below (T'.setTop (mkF m (pc + 2) L (.ref a :: S))) t → Steps p.tables e below (T.setTop (mkF m pc L S)) t := by
  have hlit : RoadKit.Lit (s.setVm vm0) own i a := by simp [RoadKit.Lit, State.resolvedAt?, State.setVm, ho, hkk, h0]
  exact ⟨a, T, (X.mono (Nat.le_add_right _ _) (Nat.le_add_right _ _)).retabled X.warmed.wide, X.warmed.since _, ⟨Nat.le_refl _, fun _ _ q => q⟩, hl, H.step (s := s.setVm vm0) rfl X.warmed.wide (Or.inl X.warmed.interned_eq), ldcAgain X hx hZ ho w hlit (g := mkF m pc L S) rfl hd⟩
/-- ldc of an entry that is open, its text interned -/
theorem ldc_found {T : State} {locs : List Loc} {vm0 : Vm} {i j n : Nat} {a : Addr} {text : String} {units : Array UInt16} (X : Stand p l e R (s.setVm vm0) m args below meth c T locs cells slots) (hx : p.tables.exec = Jvm.exec) {k : Class} {cf : ClassFile} (hkk : vm0.classes[m.cls]? = some k) (hcf : k.cf = some cf) (hcp : cf.constantPool[i]? = some (.string j)) (hu : cf.constantPool[j]? = some (.utf8 units)) (hnm : namesOf? cf.constantPool i = some (.string text)) (h0 : k.resolved[i]? = some none) (hf : vm0.interned.find? (fun p => p.1 == units) = some (units, a)) (hd : decode c.code pc = .ok (.ldc i, 2)) (hl : Lt Z T.heap xs a units) (H : Lits Z cl xs vm0 T.heap) :
    ∃ (a : Addr) (T' : State), Stand p l e R (s.setVm T'.vm) m args below meth c T' locs (cells + 2) (slots + (n + 4)) ∧ (s.setVm vm0).Since T'.vm T'.heap.size ∧ Ext T.heap T'.heap ∧ Lt Z T'.heap xs a units ∧ Lits Z cl xs T'.vm T'.heap ∧ ∀ t, Steps p.tables e below (T'.setTop (mkF m (pc + 2) L (.ref a :: S))) t → Steps p.tables e below (T.setTop (mkF m pc L S)) t := by
  obtain ⟨k', hk', ek, -, hent, -⟩ := X.warmed.2.2 m.cls k hkk
  have hcf' : k'.cf = some cf := by rw [ek]; exact hcf
  have hif : T.vm.interned.find? (fun p => p.1 == units) = some (units, a) := by rw [X.warmed.interned_eq]; exact hf
  rcases hent i with e0 | ⟨-, r, -, hr⟩
  · have hop : k'.resolved[i]? = some none := e0.trans h0
    have hW : (s.setVm vm0).Warmed39 (T.vm.noted m.cls i (.string a)) := X.warmed.wide.notedString (s := s.setVm vm0) hkk (Or.inl h0) (by rw [hcf]; exact hnm) (by rw [hcf]; exact hcp) (by rw [hcf]; simp [ConstantPool.utf8?, hu]) hif
    have hni : (T.vm.noted m.cls i (.string a)).interned = vm0.interned := X.warmed.interned_eq
    refine ⟨a, T.setVm (T.vm.noted m.cls i (.string a)), (X.mono (Nat.le_add_right _ _) (Nat.le_add_right _ _)).retabled hW, ⟨hW, fun q pr hq hp => ?_⟩, ⟨Nat.le_refl _, fun _ _ q => q⟩, hl, H.step (s := s.setVm vm0) rfl hW (Or.inl hni), fun t hrest => ?_⟩
    · have hp' : (T.vm.noted m.cls i (.string a)).interned[q]? = some pr := hp
      rw [hni] at hp'
      exact absurd (Array.getElem?_eq_some_iff.mp hp').1 (Nat.not_lt.mpr hq)
    · show Steps p.tables e below (T.setTop { method := m, pc := pc, locals := L, stack := S, locked := none }) t
      jvm_step X.here [hx, hd, ldc.wp_string_found (e := e) (s := T) (f := mkF m pc L S) X.here.top hk' hcf' hcp hu hop hif]
      exact hrest
  · exfalso
    cases r <;> simp [State.rightAt, State.setVm, hkk, hcf, hnm] at hr
theorem atoms_at {s' : State} (hZ : Z.Warmed39 s'.vm) (wS : ∀ a ∈ Bundle.stringAtoms, a.before a0 Z = true) : ∀ a ∈ Bundle.stringAtoms, a.before args s' = true := fun d hd => by
  have z := wS d hd
  simp only [Bundle.stringAtoms, List.mem_cons, List.not_mem_nil, or_false] at hd
  rcases hd with rfl | rfl | rfl | rfl | rfl | rfl | rfl
  · exact mv hZ z
  · exact mv hZ z
  · exact mvA hZ z
  · exact mv hZ z
  · exact mv hZ z
  · exact mv hZ z
  · exact mv hZ z
/-- ldc of an entry that is open, its text not yet interned -/
theorem ldc_new {T : State} {locs : List Loc} {vm0 : Vm} {i j n : Nat} {text : String} {units : Array UInt16} (X : Stand p l e R (s.setVm vm0) m args below meth c T locs cells slots) (hx : p.tables.exec = Jvm.exec) (ho : vm0.findClass own = some m.cls) (w : (Cond.stringLink own i text).before a0 Z = true) (wS : ∀ a ∈ Bundle.stringAtoms, a.before a0 Z = true) {k : Class} {cf : ClassFile} (hkk : vm0.classes[m.cls]? = some k) (hcf : k.cf = some cf) (hcp : cf.constantPool[i]? = some (.string j)) (hu : cf.constantPool[j]? = some (.utf8 units)) (hdec : utf16ToString? units = some text) (h0 : k.resolved[i]? = some none) (hf : vm0.interned.find? (fun p => p.1 == units) = none) (hd : decode c.code pc = .ok (.ldc i, 2)) (hn : 4 * text.toList.length ≤ n) (hbig : n ≤ 536870912) (hc' : cells + 2 ≤ R.cells) (hs' : slots + (n + 4) ≤ R.slots) (H : Lits Z cl xs vm0 T.heap) (hZ : Z.Warmed39 vm0) (hlat : ∀ c ∈ text.toList, c.toNat < 256) :
    ∃ (a : Addr) (T' : State), Stand p l e R (s.setVm T'.vm) m args below meth c T' locs (cells + 2) (slots + (n + 4)) ∧ (s.setVm vm0).Since T'.vm T'.heap.size ∧ Ext T.heap T'.heap ∧ Lt Z T'.heap xs a units ∧ Lits Z cl xs T'.vm T'.heap ∧ ∀ t, Steps p.tables e below (T'.setTop (mkF m (pc + 2) L (.ref a :: S))) t → Steps p.tables e below (T.setTop (mkF m pc L S)) t := by
  have held : ConstHeldL ({ s.setVm vm0 with heap := T.heap, slotsUsed := T.slotsUsed } : State) own i := fun c' k' cf' j' us' b q1 q2 q3 q4 q5 q6 => by
    cases (show vm0.findClass own = some c' from q1).symm.trans ho
    cases (show vm0.classes[m.cls]? = some k' from q2).symm.trans hkk
    cases hcf.symm.trans q3
    cases hcp.symm.trans q4
    cases hu.symm.trans q5
    rcases q6 with q6 | ⟨-, q6⟩
    · cases h0.symm.trans q6
    · cases hf.symm.trans q6
  have Y := rebase X (by omega) (by omega)
  obtain ⟨a, T', Y', hS', ⟨kk, hkk', hrr⟩, hb, -, hint, ⟨us, hus, q, cS, hqa, hsl, hkS, hB, hbyt, hloc⟩, st⟩ := Y.ldcColdF (fun b ce hbc => hbc) hx (own := own) ho (mvS (s := { s with heap := T.heap, slotsUsed := T.slotsUsed }) hZ w) (atoms_at hZ wS) held (fun us hu' => Jvm.ClassFile.lat_of_text hu' hlat) (g := mkF m pc L S) rfl hd hn hbig (by show 0 + 2 ≤ R.cells - cells; omega) (by show 0 + (n + 4) ≤ R.slots - slots; omega)
  simp only [Nat.zero_add] at Y'
  have hW : (s.setVm vm0).Warmed39 T'.vm := State.Warmed39.of_rootvm rfl hS'.1
  have E : Ext T.heap T'.heap := ext_of hb
  have hTi : T.vm.interned = vm0.interned := X.warmed.interned_eq
  have hbk : (s.setVm vm0).Since T'.vm T'.heap.size := ⟨hW, fun jj pr hj hp => by
    obtain ⟨z1, z2⟩ := hS'.2 jj pr hj hp
    exact ⟨Nat.le_trans X.same.2.1 z1, z2⟩⟩
  have hlu := Jvm.ClassFile.lat_of_text hus hlat
  have hueq : us = units := by
    have z := (Jvm.ClassFile.units_of_text hus hlat).trans (Jvm.ClassFile.units_of_text hdec hlat).symm
    exact Array.toList_inj.mp z
  subst hueq
  subst hqa
  -- the pair that the intern table has won is this very text's, at this very object
  have hpush : T'.vm.interned = vm0.interned.push (us, q.sa) := by
    have hfd : T'.vm.interned.find? (fun p => p.1 == us) = some (us, q.sa) := by
      obtain ⟨k2, e1, e2, e3, e4, -⟩ := hW.2.2.2 m.cls k hkk
      cases e1.symm.trans hkk'
      rcases e4 i with e0 | ⟨-, r, e5, hr | ⟨a', tx, si, us', rfl, -, q3, q4, q5⟩⟩
      · cases (e0.symm.trans hrr).symm.trans h0
      · cases e5.symm.trans hrr
        simp [State.rightAt, State.setVm, hkk, hcf] at hr
      · cases e5.symm.trans hrr
        rw [hcf] at q3 q4
        have e7 : si = j := by have z := q3.symm.trans hcp; simpa using z
        subst e7
        have e8 : us' = us := by simpa [ConstantPool.utf8?, hu] using q4.symm
        subst e8
        exact q5
    rcases hint with hint | ⟨u2, a2, -, hint⟩
    · rw [hint, hTi, hf] at hfd; cases hfd
    · rw [hint, hTi, Array.find?_push, hf] at hfd
      simp only [Option.none_or] at hfd
      split at hfd
      · cases hfd; rw [hint, hTi]
      · cases hfd
  have hge : T.heap.size ≤ q.sa := by
    have z := hS'.2 vm0.interned.size (us, q.sa) (Nat.le_refl _) (by rw [hpush]; simp)
    exact z.1
  have hge2 : T.heap.size ≤ q.sd := by
    rcases hloc with ⟨z1, -⟩ | ⟨-, z2⟩
    · exact absurd hge (Nat.not_le.mpr z1)
    · exact z2
  have hl : Lt Z T'.heap xs q.sa us := lt_core (hZ.alike.trans hW.alike) hlu hsl hkS hB hbyt (fun z => absurd hge (Nat.not_le.mpr (H.1 _ z))) (fun z => absurd hge2 (Nat.not_le.mpr (H.1 _ z)))
  exact ⟨q.sa, T', unbase (s := s.setVm vm0) X hW rfl Y', hbk, E, hl, (H.ext E).step (s := s.setVm vm0) rfl hW (Or.inr ⟨us, q.sa, hpush, hl⟩), st⟩
/-- ldc of a String constant -/
theorem Go.ldcS (K : Cx0 bytes maxL ret mn p meth c) (hq : pc + 2 = q) {text : String} {i : Nat} (hin : (own, i) ∈ cl) (w : (Cond.stringLink own i text).before a0 Z = true) (wS : ∀ a ∈ Bundle.stringAtoms, a.before a0 Z = true) (hlat : ∀ c ∈ text.toList, c.toNat < 256) (hd : decode bytes pc = .ok (.ldc i, 2)) {n cells' slots' : Nat} (hn : 4 * text.toList.length ≤ n) (hbig : n ≤ 536870912) (hc : cells + 2 = cells') (hs : slots + (n + 4) = slots') (hc' : cells' ≤ R.cells) (hs' : slots' ≤ R.slots)
    (r : ∀ h' a, Ext h h' → (∃ units : Array UInt16, utf16ToString? units = some text ∧ Lt Z h' xs a units) → Go p l e R s m args below meth c Z own cl xs0 n0 kc ks Q xs h' cells' slots' (mkF m q L (.ref a :: S))) : Go p l e R s m args below meth c Z own cl xs0 n0 kc ks Q xs h cells slots (mkF m pc L S) := fun T locs vm0 k0 X hS hk hZ ho eT N H => by
  subst hq hc hs
  have wl : (Cond.stringLink own i text).before args (s.setVm vm0) = true := mvS hZ w
  obtain ⟨k, cf, j, units, hkk, hcf, hcp, hu, hnm, hdec, hres⟩ := Cond.stringLink_spec (s := s.setVm vm0) ho wl
  have hlt := Jvm.ClassFile.lat_of_text hdec hlat
  -- the step, in each of the three ways that the tables can stand
  have key : ∃ (a : Addr) (T' : State), Stand p l e R (s.setVm T'.vm) m args below meth c T' locs (cells + 2) (slots + (n + 4)) ∧ (s.setVm vm0).Since T'.vm T'.heap.size ∧ Ext T.heap T'.heap ∧ Lt Z T'.heap xs a units ∧ Lits Z cl xs T'.vm T'.heap ∧ ∀ t, Steps p.tables e below (T'.setTop (mkF m (pc + 2) L (.ref a :: S))) t → Steps p.tables e below (T.setTop (mkF m pc L S)) t := by
    have hTh : Lits Z cl xs vm0 T.heap := by rw [eT]; exact H
    rcases hres with h0 | ⟨a, h0⟩
    · cases hf : vm0.interned.find? (fun p => p.1 == units) with
      | some pr =>
        obtain ⟨u', a⟩ := pr
        have hu' : u' = units := by have z := Array.find?_some hf; simpa using z
        subst hu'
        have hlt := hTh.2 _ hin _ k cf j u' a ho hkk hcf hcp hu (Or.inr ⟨h0, hf⟩)
        exact ldc_found X K.1 hkk hcf hcp hu hnm h0 hf (hb K.2.1 hd) hlt hTh
      | none =>
        exact ldc_new X K.1 ho w wS hkk hcf hcp hu hdec h0 hf (hb K.2.1 hd) hn hbig hc' hs' hTh hZ hlat
    · have hlt := hTh.2 _ hin _ k cf j units a ho hkk hcf hcp hu (Or.inl h0)
      exact ldc_res X K.1 hZ ho w hkk h0 (hb K.2.1 hd) hlt hTh
  obtain ⟨a, T', X', hS', E, hl, H', st⟩ := key
  subst eT
  obtain ⟨s₂, o, a1, a2⟩ := r T'.heap a E ⟨units, hdec, hl⟩ T' locs T'.vm _ X' (hS.trans hS' (Nat.le_trans hk E.1)) (Nat.le_refl _) (State.Warmed39.trans (t := s.setVm vm0) hZ hS'.1) (by rw [hS'.1.alike.findClass]; exact ho) rfl N H'
  exact ⟨s₂, o, st _ a1, a2⟩
/-! calls -/
abbrev PreB (R : Room) (as' : Array Value) (h : Heap) (dc ds : Nat) : Pt → Array Value → Prop := fun A a => a = as' ∧ A.U.heap = h ∧ A.cells + dc ≤ R.cells ∧ A.slots + ds ≤ R.slots
abbrev PostB (QQ : Option Value → Heap → List Loc → Prop) (dc ds : Nat) : Pt → Array Value → Option Value → Pt → Prop := fun A _ v B => ∃ L, QQ v B.U.heap L ∧ B.locs = A.locs ++ L ∧ B.cells = A.cells + dc ∧ B.slots = A.slots + ds
theorem Go.bS (K : Cx0 bytes maxL ret mn p meth c) (hq : pc + 3 = q) {i : Nat} {y : MethodName} {bytes' : ByteArray} {maxL' : Nat} {ret' : Option FieldType} (w1 : (Cond.methodLink own i y).before a0 Z = true) (w2 : (Cond.static y).before a0 Z = true) (w3 : (Cond.initialized y.cls).before a0 Z = true) (w4 : (Cond.code y bytes' maxL' ret').before a0 Z = true) (hy : y.cls ≠ "java/lang/invoke/MethodHandle" ∧ y.cls ≠ "java/lang/invoke/VarHandle")
    {W dc ds cells' slots' : Nat} {as' : Array Value} {QQ : Option Value → Heap → List Loc → Prop} (B : ∀ s' : State, Z.Warmed39 s'.vm → Back l R p e below s' args y 3 W (PreB R as' h dc ds) (PostB QQ dc ds)) {sig : MethodDescriptor} (hsig : parseMethodDescriptor y.desc = some sig) {argsL rest : List Value} (has : as' = argsL.toArray) (hlen : argsL.length = sig.parameters.length) (hS : S = argsL.reverse ++ rest) (hsz : L.size = maxL) (hW : (rest.map fun v => v.category).sum ≤ W)
    (hd : decode bytes pc = .ok (.invokestatic i, 3)) (hc : cells + dc = cells') (hs : slots + ds = slots') (hc' : cells' ≤ R.cells) (hs' : slots' ≤ R.slots) (r : ∀ v h' L', QQ v h' L' → Fr n0 L' ∧ h.size ≤ h'.size ∧ ∃ xs', (∀ vm, Lits Z cl xs vm h → Lits Z cl xs' vm h') ∧ Go p l e R s m args below meth c Z own cl xs0 n0 kc ks Q xs' h' cells' slots' (mkF m q L (v.toList ++ rest))) : Go p l e R s m args below meth c Z own cl xs0 n0 kc ks Q xs h cells slots (mkF m pc L S) :=
  Go.of_heap (cells' := cells') (slots' := slots') K fun s' K T locs X eT N => by
    subst hq hc hs
    obtain ⟨v, vm₁, ⟨T', L', k', n'⟩, -, X', ⟨Lc, hQ, l1, l2, l3⟩, st⟩ := Jvm.LawKit.callS X K.1 (y := y) K.2.2.1 (mvT K.2.1 w1) (mvT K.2.1 w2) (mvT K.2.1 w3) (mvT K.2.1 w4) hy (B s' K.2.1) (g := mkF m pc L S) rfl (hsz.trans K.2.2.2.2.1.symm) (argsL := argsL) (rest := rest) (fun sg hg => by rw [hsig] at hg; cases hg; exact hlen) hS (by show 2 * 0 + _ ≤ _; omega) (hb K.2.2.2.1 hd) (fun _ _ => ⟨has.symm, eT, hc', hs'⟩)
    dsimp only [Pt.U, Pt.locs, Pt.cells, Pt.slots] at X' l1 l2 l3 st hQ
    subst l1 l2 l3
    obtain ⟨N', hsz', xs', HH, G⟩ := r v T'.heap Lc hQ
    exact ⟨T', T'.heap, _, _, xs', X', rfl, hsz', Fr.app N N', HH, st, G⟩
theorem Go.bI (K : Cx0 bytes maxL ret mn p meth c) (hq : pc + 3 = q) {i : Nat} {y : MethodName} {bytes' : ByteArray} {maxL' : Nat} (hyi : y.name = "<init>") (w1 : (Cond.methodLink own i y).before a0 Z = true) (w2 : (Cond.instanceMethod y).before a0 Z = true) (w4 : (Cond.code y bytes' maxL' none).before a0 Z = true) (hy : y.cls ≠ "java/lang/invoke/MethodHandle" ∧ y.cls ≠ "java/lang/invoke/VarHandle")
    {W dc ds cells' slots' : Nat} {as' : Array Value} {QQ : Option Value → Heap → List Loc → Prop} (B : ∀ s' : State, Z.Warmed39 s'.vm → Back l R p e below s' args y 3 W (PreB R as' h dc ds) (PostB QQ dc ds)) {sig : MethodDescriptor} (hsig : parseMethodDescriptor y.desc = some sig) {a : Addr} {argsL rest : List Value} (has : as' = (.ref a :: argsL).toArray) (hlen : argsL.length = sig.parameters.length) (hS : S = argsL.reverse ++ .ref a :: rest) (hsz : L.size = maxL) (hW : (rest.map fun v => v.category).sum ≤ W)
    (hd : decode bytes pc = .ok (.invokespecial i, 3)) (hc : cells + dc = cells') (hs : slots + ds = slots') (hc' : cells' ≤ R.cells) (hs' : slots' ≤ R.slots) (r : ∀ v h' L', QQ v h' L' → Fr n0 L' ∧ h.size ≤ h'.size ∧ ∃ xs', (∀ vm, Lits Z cl xs vm h → Lits Z cl xs' vm h') ∧ Go p l e R s m args below meth c Z own cl xs0 n0 kc ks Q xs' h' cells' slots' (mkF m q L (v.toList ++ rest))) : Go p l e R s m args below meth c Z own cl xs0 n0 kc ks Q xs h cells slots (mkF m pc L S) :=
  Go.of_heap (cells' := cells') (slots' := slots') K fun s' K T locs X eT N => by
    subst hq hc hs
    obtain ⟨v, vm₁, ⟨T', L', k', n'⟩, -, X', ⟨Lc, hQ, l1, l2, l3⟩, st⟩ := X.specialBack K.1 (y := y) hyi K.2.2.1 (mvT K.2.1 w1) (mvT K.2.1 w2) (mvT K.2.1 w4) hy (B s' K.2.1) (g := mkF m pc L S) rfl (hsz.trans K.2.2.2.2.1.symm) (Steps.refl _) (a := a) (argsL := argsL) (rest := rest) (fun sg hg => by rw [hsig] at hg; cases hg; exact hlen) hS (by show 2 * 0 + _ ≤ _; omega) (hb K.2.2.2.1 hd) (fun _ _ => ⟨has.symm, eT, hc', hs'⟩)
    dsimp only [Pt.U, Pt.locs, Pt.cells, Pt.slots] at X' l1 l2 l3 st hQ
    subst l1 l2 l3
    obtain ⟨N', hsz', xs', HH, G⟩ := r v T'.heap Lc hQ
    exact ⟨T', T'.heap, _, _, xs', X', rfl, hsz', Fr.app N N', HH, fun t k => st.trans k, G⟩
theorem Go.bV (K : Cx0 bytes maxL ret mn p meth c) (hq : pc + 3 = q) {i : Nat} {C : String} {y z : MethodName} (w1 : (Cond.methodLink own i y).before a0 Z = true) (w2 : (Cond.declares y).before a0 Z = true) (nf : ∀ s' : State, Z.Warmed39 s'.vm → NotFace s' y) (w3 : (Cond.selects C y z).before a0 Z = true) (w4 : (Cond.instanceMethod z).before a0 Z = true) (hy : y.cls ≠ "java/lang/invoke/MethodHandle" ∧ y.cls ≠ "java/lang/invoke/VarHandle")
    {W dc ds cells' slots' : Nat} {as' : Array Value} {QQ : Option Value → Heap → List Loc → Prop} (B : ∀ s' : State, Z.Warmed39 s'.vm → Back l R p e below s' args z 3 W (PreB R as' h dc ds) (PostB QQ dc ds)) {a : Addr} (E : Exa Z h a C) {sig : MethodDescriptor} (hsig : parseMethodDescriptor y.desc = some sig) {argsL rest : List Value} (has : as' = (.ref a :: argsL).toArray) (hlen : argsL.length = sig.parameters.length) (hS : S = argsL.reverse ++ .ref a :: rest) (hsz : L.size = maxL) (hW : (rest.map fun v => v.category).sum ≤ W)
    (hd : decode bytes pc = .ok (.invokevirtual i, 3)) (hc : cells + dc = cells') (hs : slots + ds = slots') (hc' : cells' ≤ R.cells) (hs' : slots' ≤ R.slots) (r : ∀ v h' L', QQ v h' L' → Fr n0 L' ∧ h.size ≤ h'.size ∧ ∃ xs', (∀ vm, Lits Z cl xs vm h → Lits Z cl xs' vm h') ∧ Go p l e R s m args below meth c Z own cl xs0 n0 kc ks Q xs' h' cells' slots' (mkF m q L (v.toList ++ rest))) : Go p l e R s m args below meth c Z own cl xs0 n0 kc ks Q xs h cells slots (mkF m pc L S) :=
  Go.of_heap (cells' := cells') (slots' := slots') K fun s' K T locs X eT N => by
    subst hq hc hs
    obtain ⟨cq, kq, qa, qb, qc⟩ := isOf K.2.1 eT E
    obtain ⟨v, vm₁, ⟨T', L', k', n'⟩, -, X', ⟨Lc, hQ, l1, l2, l3⟩, st⟩ := X.virtualBack K.1 (y := y) (z := z) K.2.2.1 (mvT K.2.1 w1) (mvT K.2.1 w2) (nf s' K.2.1) (mvT K.2.1 w3) (mvT K.2.1 w4) hy (B s' K.2.1) qa qc (g := mkF m pc L S) rfl (hsz.trans K.2.2.2.2.1.symm) (Steps.refl _) (argsL := argsL) (rest := rest) (fun sg hg => by rw [hsig] at hg; cases hg; exact hlen) hS (by show 2 * 0 + _ ≤ _; omega) (hb K.2.2.2.1 hd) (fun _ _ => ⟨has.symm, eT, hc', hs'⟩)
    dsimp only [Pt.U, Pt.locs, Pt.cells, Pt.slots] at X' l1 l2 l3 st hQ
    subst l1 l2 l3
    obtain ⟨N', hsz', xs', HH, G⟩ := r v T'.heap Lc hQ
    exact ⟨T', T'.heap, _, _, xs', X', rfl, hsz', Fr.app N N', HH, fun t k => st.trans k, G⟩
theorem nfS {C : String} {y : MethodName} (w3 : (Cond.selects C y y).before a0 Z = true) : ∀ s' : State, Z.Warmed39 s'.vm → NotFace s' y := fun s' hZ => notFace_of_selects (args := #[]) (mvT hZ w3)
theorem nfTop {y : MethodName} (w : (Cond.noSuperclass y.cls).before a0 Z = true) : ∀ s' : State, Z.Warmed39 s'.vm → NotFace s' y := fun s' hZ => nf_top (args := #[]) (mvT hZ w)
theorem nfSup {y : MethodName} {C : String} (w : (Cond.superclass y.cls C).before a0 Z = true) : ∀ s' : State, Z.Warmed39 s'.vm → NotFace s' y := fun s' hZ => nf_super (args := #[]) (mvT hZ w)
abbrev PreW (Z : State) (cl : List (String × Nat)) (xs : List Addr) (R : Room) (as' : Array Value) (h : Heap) (dc ds : Nat) : Pt → Array Value → Prop := fun A a => a = as' ∧ A.U.heap = h ∧ Lits Z cl xs A.U.vm h ∧ A.cells + dc ≤ R.cells ∧ A.slots + ds ≤ R.slots
abbrev PostW (Z : State) (cl : List (String × Nat)) (xs : List Addr) (n0 : Nat) (Q' : Option Value → Heap → Prop) (dc ds : Nat) : Pt → Array Value → Option Value → Pt → Prop := fun A _ v B => ∃ L, (Q' v B.U.heap ∧ Lits Z cl xs B.U.vm B.U.heap ∧ Fr n0 L) ∧ B.locs = A.locs ++ L ∧ B.cells = A.cells + dc ∧ B.slots = A.slots + ds
/-- a callee's contract as what pays a call -/
theorem Ctr.back {s' : State} (hZ : Z.Warmed39 s'.vm) {y : MethodName} {bytes' : ByteArray} {maxL' : Nat} {ret' : Option FieldType} {rm : Room} {as' : Array Value} {Q' : Option Value → Heap → Prop} {W : Nat} (C : Ctr l Z cl xs n0 y bytes' maxL' ret' [] rm as' h Q') (w4 : (Cond.code y bytes' maxL' ret').before a0 Z = true) (w3 : (Cond.initialized y.cls).before a0 Z = true) (hf : rm.frames + 1 ≤ R.frames) (hl : W + (maxL' + 11) + rm.locals ≤ R.locals) :
    BackS l R p e below s' args y 3 W (PreW Z cl xs R as' h rm.cells rm.slots) (PostW Z cl xs n0 Q' rm.cells rm.slots) :=
  BackS.of_freeW (bytes := bytes') (maxL := maxL') (ret := ret') (E := fun _ _ o t L k n => k = rm.cells ∧ n = rm.slots ∧ ∃ v, o = .returned v ∧ (Q' v t.heap ∧ Lits Z cl xs t.vm t.heap ∧ Fr n0 L)) C hf hl
    (fun m meth c A a Y hp => have hU : Z.Warmed39 A.U.vm := wtrans hZ Y.warmed
      ⟨by show (Cond.and _ .tt).before a A.U = true; rw [Cond.before_and, mv hU w4]; rfl, mv hU w4, mv hU w3, hp.2.2.2.1, hp.2.2.2.2⟩)
    (fun m meth c A a g mk Y hp => ⟨hp.1, wtrans hZ Y.warmed, hp.2.1, hp.2.2.1⟩) (fun _ _ _ _ _ _ _ _ _ => trivial)
    (fun _ _ _ _ ⟨v, L, h1, h2, h3⟩ => ⟨L, _, _, h3, rfl, rfl, v, h1, h2⟩)
    (fun m meth c A a g mk v t L k n Y hp _ _ ⟨e1, e2, v', e3, e4⟩ => by cases e3; subst e1 e2; exact ⟨L, e4, rfl, rfl, rfl⟩)
/-- behind a callee that may have loaded constants -/
theorem Go.behind {f f' : JFrame} {Q' : Option Value → Heap → Prop} {dc ds cells' slots' : Nat} {T : State} {locs : List Loc} {vm0 vm1 : Vm} {k0 : Nat} {B : Pt} {a : Array Value} {v : Option Value} (hk : k0 ≤ h.size) (eT : T.heap = h) (hSi : s.Since vm0 k0) (hZ : Z.Warmed39 vm0) (ho : vm0.findClass own = some m.cls) (N : Fr n0 locs) (hc : cells + dc = cells') (hs : slots + ds = slots')
    (X' : Stand p l e R ((s.setVm vm0).setVm B.U.vm) m args below meth c B.U B.locs B.cells B.slots) (hS' : (s.setVm vm0).Since B.U.vm B.U.heap.size) (hg : T.heap.size ≤ B.U.heap.size) (post : PostW Z cl xs n0 Q' dc ds ⟨T.setVm vm1, locs, cells, slots⟩ a v B) (st : Steps p.tables e below (T.setTop f) (B.U.setTop f')) (r : ∀ h', Q' v h' → h.size ≤ h'.size → Go p l e R s m args below meth c Z own cl xs0 n0 kc ks Q xs h' cells' slots' f') :
    ∃ s₂ o, Steps p.tables e below (T.setTop f) s₂ ∧ s₂.status = .running ∧ Ended s₂ below o ∧ ∃ v L, o = .returned v ∧ (Q v s₂.heap ∧ Lits Z cl xs0 s₂.vm s₂.heap ∧ Fr n0 L) ∧ ReturnedEndW s o s₂ L kc ks := by
  obtain ⟨B1, B2, B3, B4⟩ := B
  obtain ⟨Lc, ⟨hQ, HL, NL⟩, l1, l2, l3⟩ := post
  dsimp only [Pt.U, Pt.locs, Pt.cells, Pt.slots] at X' hS' hg l1 l2 l3 st hQ HL
  subst l1 l2 l3 hc hs
  obtain ⟨s₂, o, a1, a2⟩ := r B1.heap hQ (by rw [← eT]; exact hg) B1 _ B1.vm _ X' (hSi.trans hS' (Nat.le_trans hk (by rw [← eT]; exact hg))) (Nat.le_refl _) (State.Warmed39.trans (t := s.setVm vm0) hZ hS'.1) (by rw [hS'.1.alike.findClass]; exact ho) rfl (Fr.app N NL) HL
  exact ⟨s₂, o, st.trans a1, a2⟩
theorem Lits.warm {vm0 vm1 : Vm} (H : Lits Z cl xs vm0 h) (hW : (s.setVm vm0).WarmedH vm1) : Lits Z cl xs vm1 h := H.step (s := s.setVm vm0) rfl hW.wide (Or.inl hW.interned_eq)
/-- a static call by the callee's contract -/
theorem Go.cS (K : Cx0 bytes maxL ret mn p meth c) (hq : pc + 3 = q) {i : Nat} {y : MethodName} {bytes' : ByteArray} {maxL' : Nat} {ret' : Option FieldType} {rm : Room} {as' : Array Value} {Q' : Option Value → Heap → Prop} (C : Ctr l Z cl xs n0 y bytes' maxL' ret' [] rm as' h Q') (w1 : (Cond.methodLink own i y).before a0 Z = true) (w2 : (Cond.static y).before a0 Z = true) (w3 : (Cond.initialized y.cls).before a0 Z = true) (w4 : (Cond.code y bytes' maxL' ret').before a0 Z = true) (hy : y.cls ≠ "java/lang/invoke/MethodHandle" ∧ y.cls ≠ "java/lang/invoke/VarHandle")
    {sig : MethodDescriptor} (hsig : parseMethodDescriptor y.desc = some sig) {argsL rest : List Value} (has : as' = argsL.toArray) (hlen : argsL.length = sig.parameters.length) (hS : S = argsL.reverse ++ rest) (hsz : L.size = maxL) {W cells' slots' : Nat} (hW : (rest.map fun v => v.category).sum ≤ W) (hf : rm.frames + 1 ≤ R.frames) (hl : W + (maxL' + 11) + rm.locals ≤ R.locals)
    (hd : decode bytes pc = .ok (.invokestatic i, 3)) (hc : cells + rm.cells = cells') (hs : slots + rm.slots = slots') (hc' : cells' ≤ R.cells) (hs' : slots' ≤ R.slots) (r : ∀ v h', Q' v h' → h.size ≤ h'.size → Go p l e R s m args below meth c Z own cl xs0 n0 kc ks Q xs h' cells' slots' (mkF m q L (v.toList ++ rest))) : Go p l e R s m args below meth c Z own cl xs0 n0 kc ks Q xs h cells slots (mkF m pc L S) := fun T locs vm0 k0 X hSi hk hZ ho eT N H => by
  subst hq
  obtain ⟨v, vm₁, B, -, X', hS', hg, post, st⟩ := callSS X K.1 (y := y) ho (mvT hZ w1) (mvT hZ w2) (mvT hZ w3) (mvT hZ w4) hy (C.back (W := W) hZ w4 w3 hf hl) (g := mkF m pc L S) rfl (hsz.trans K.2.2.1.symm) (argsL := argsL) (rest := rest) (fun sg hg => by rw [hsig] at hg; cases hg; exact hlen) hS (by show 2 * 0 + _ ≤ _; omega) (hb K.2.1 hd) (fun vm₁ h₁ => ⟨has.symm, eT, H.warm h₁, by rw [hc]; exact hc', by rw [hs]; exact hs'⟩)
  exact Go.behind hk eT hSi hZ ho N hc hs X' hS' hg post st (r v)
/-- a constructor by its contract -/
theorem Go.cI (K : Cx0 bytes maxL ret mn p meth c) (hq : pc + 3 = q) {i : Nat} {y : MethodName} {bytes' : ByteArray} {maxL' : Nat} {rm : Room} {as' : Array Value} {Q' : Option Value → Heap → Prop} (C : Ctr l Z cl xs n0 y bytes' maxL' none [] rm as' h Q') (hyi : y.name = "<init>") (w1 : (Cond.methodLink own i y).before a0 Z = true) (w2 : (Cond.instanceMethod y).before a0 Z = true) (w3 : (Cond.initialized y.cls).before a0 Z = true) (w4 : (Cond.code y bytes' maxL' none).before a0 Z = true) (hy : y.cls ≠ "java/lang/invoke/MethodHandle" ∧ y.cls ≠ "java/lang/invoke/VarHandle")
    {sig : MethodDescriptor} (hsig : parseMethodDescriptor y.desc = some sig) {a : Addr} {argsL rest : List Value} (has : as' = (.ref a :: argsL).toArray) (hlen : argsL.length = sig.parameters.length) (hS : S = argsL.reverse ++ .ref a :: rest) (hsz : L.size = maxL) {W cells' slots' : Nat} (hW : (rest.map fun v => v.category).sum ≤ W) (hf : rm.frames + 1 ≤ R.frames) (hl : W + (maxL' + 11) + rm.locals ≤ R.locals)
    (hd : decode bytes pc = .ok (.invokespecial i, 3)) (hc : cells + rm.cells = cells') (hs : slots + rm.slots = slots') (hc' : cells' ≤ R.cells) (hs' : slots' ≤ R.slots) (r : ∀ v h', Q' v h' → h.size ≤ h'.size → Go p l e R s m args below meth c Z own cl xs0 n0 kc ks Q xs h' cells' slots' (mkF m q L (v.toList ++ rest))) : Go p l e R s m args below meth c Z own cl xs0 n0 kc ks Q xs h cells slots (mkF m pc L S) := fun T locs vm0 k0 X hSi hk hZ ho eT N H => by
  subst hq
  obtain ⟨v, vm₁, B, -, X', hS', hg, post, st⟩ := X.specialBackS K.1 (y := y) hyi ho (mvT hZ w1) (mvT hZ w2) (mvT hZ w4) hy (C.back (W := W) hZ w4 w3 hf hl) (g := mkF m pc L S) rfl (hsz.trans K.2.2.1.symm) (Steps.refl _) (a := a) (argsL := argsL) (rest := rest) (fun sg hg => by rw [hsig] at hg; cases hg; exact hlen) hS (by show 2 * 0 + _ ≤ _; omega) (hb K.2.1 hd) (fun vm₁ h₁ => ⟨has.symm, eT, H.warm h₁, by rw [hc]; exact hc', by rw [hs]; exact hs'⟩)
  exact Go.behind hk eT hSi hZ ho N hc hs X' hS' hg post st (r v)
/-- an instance method by its contract -/
theorem Go.cV (K : Cx0 bytes maxL ret mn p meth c) (hq : pc + 3 = q) {i : Nat} {C0 : String} {y z : MethodName} {bytes' : ByteArray} {maxL' : Nat} {ret' : Option FieldType} {rm : Room} {as' : Array Value} {Q' : Option Value → Heap → Prop} (C : Ctr l Z cl xs n0 z bytes' maxL' ret' [] rm as' h Q') (w1 : (Cond.methodLink own i y).before a0 Z = true) (w2 : (Cond.declares y).before a0 Z = true) (nf : ∀ s' : State, Z.Warmed39 s'.vm → NotFace s' y) (w3 : (Cond.selects C0 y z).before a0 Z = true) (w4 : (Cond.instanceMethod z).before a0 Z = true) (w5 : (Cond.initialized z.cls).before a0 Z = true) (w6 : (Cond.code z bytes' maxL' ret').before a0 Z = true) (hy : y.cls ≠ "java/lang/invoke/MethodHandle" ∧ y.cls ≠ "java/lang/invoke/VarHandle")
    {a : Addr} (E : Exa Z h a C0) {sig : MethodDescriptor} (hsig : parseMethodDescriptor y.desc = some sig) {argsL rest : List Value} (has : as' = (.ref a :: argsL).toArray) (hlen : argsL.length = sig.parameters.length) (hS : S = argsL.reverse ++ .ref a :: rest) (hsz : L.size = maxL) {W cells' slots' : Nat} (hW : (rest.map fun v => v.category).sum ≤ W) (hf : rm.frames + 1 ≤ R.frames) (hl : W + (maxL' + 11) + rm.locals ≤ R.locals)
    (hd : decode bytes pc = .ok (.invokevirtual i, 3)) (hc : cells + rm.cells = cells') (hs : slots + rm.slots = slots') (hc' : cells' ≤ R.cells) (hs' : slots' ≤ R.slots) (r : ∀ v h', Q' v h' → h.size ≤ h'.size → Go p l e R s m args below meth c Z own cl xs0 n0 kc ks Q xs h' cells' slots' (mkF m q L (v.toList ++ rest))) : Go p l e R s m args below meth c Z own cl xs0 n0 kc ks Q xs h cells slots (mkF m pc L S) := fun T locs vm0 k0 X hSi hk hZ ho eT N H => by
  subst hq
  obtain ⟨cq, kq, qa, qb, qc⟩ := isOf (s := s.setVm vm0) hZ eT E
  obtain ⟨v, vm₁, B, -, X', hS', hg, post, st⟩ := X.virtualBackS K.1 (y := y) (z := z) ho (mvT hZ w1) (mvT hZ w2) (nf (s.setVm vm0) hZ) (mvT hZ w3) (mvT hZ w4) hy (C.back (W := W) hZ w6 w5 hf hl) qa qc (g := mkF m pc L S) rfl (hsz.trans K.2.2.1.symm) (Steps.refl _) (argsL := argsL) (rest := rest) (fun sg hg => by rw [hsig] at hg; cases hg; exact hlen) hS (by show 2 * 0 + _ ≤ _; omega) (hb K.2.1 hd) (fun vm₁ h₁ => ⟨has.symm, eT, H.warm h₁, by rw [hc]; exact hc', by rw [hs]; exact hs'⟩)
  exact Go.behind hk eT hSi hZ ho N hc hs X' hS' hg post st (r v)
end Rules
theorem notsub {Z : State} {a0 : Array Value} {C S K : String} {n : Nat} (w : (Cond.superclass C S).before a0 Z = true) (wn : (Cond.noSuperclass S).before a0 Z = true) (wk : (Cond.instantiable K n).before a0 Z = true) (h1 : C ≠ K) (h2 : S ≠ K) : ∃ c t, Z.vm.findClass C = some c ∧ Z.vm.findClass K = some t ∧ Z.vm.assignable c t = false := by
  obtain ⟨t, kt, g1, g2, g3, g4, -⟩ := Cond.instantiable_spec wk
  obtain ⟨c0, k0, m1, m2, m3, -, -⟩ := Cond.noSuperclass_spec wn
  obtain ⟨c, h0⟩ := found_sup w
  obtain ⟨p, k, kp, s1, s2, s3, s4, s5, -, s7⟩ := Cond.superclass_spec h0 w
  cases m1.symm.trans s1
  have e1 := ids_ne h0 g1 h1
  have e2 := ids_ne m1 g1 h2
  have g5 : kt.isInterface = false := by cases q : kt.isInterface <;> simp_all
  have sub : ∀ fuel, Z.vm.isSubclassAux fuel c t = false := fun fuel => by
    cases fuel with
    | zero => rfl
    | succ f =>
      cases f with
      | zero => simp [Vm.isSubclassAux, e1, s2, s4]
      | succ f => simp [Vm.isSubclassAux, e1, s2, s4, e2, m2, m3]
  refine ⟨c, t, h0, g1, ?_⟩
  show Z.vm.assignableAux (255 + 1) c t = false
  simp [Vm.assignableAux, e1, s2, g2, s5, g3, g5, Vm.isSubclass, sub]
/-- of that class (nothing on its number of slots) -/
def Isa (Z : State) (h : Heap) (a : Addr) (C : String) : Prop := ∃ (cell : Cell) (k : Class), h[a]? = some cell ∧ Z.vm.findClass C = some cell.cls ∧ Z.vm.classes[cell.cls]? = some k ∧ cell.vm.isStatics = false
theorem Isa.ext {Z : State} {h h' : Heap} {a : Addr} {C : String} (F : Isa Z h a C) (E : Ext h h') : Isa Z h' a C := by obtain ⟨c, k, h1, r⟩ := F; exact ⟨c, k, E.2 _ _ h1, r⟩
theorem isa_of {Z : State} {h : Heap} {a : Addr} {C : String} (F : Exa Z h a C) : Isa Z h a C := by obtain ⟨c, k, h1, h2, h3, h4, -⟩ := F; exact ⟨c, k, h1, h2, h3, h4⟩
/-! what is carried -/
theorem Ext.refl (h : Heap) : Ext h h := ⟨Nat.le_refl _, fun _ _ q => q⟩
theorem Ext.trans {h0 h h' : Heap} (E : Ext h0 h) (E' : Ext h h') : Ext h0 h' := ⟨Nat.le_trans E.1 E'.1, fun a c q => E'.2 a c (E.2 a c q)⟩
theorem Ext.keep {h0 h h' : Heap} {ws : List Addr} (E : Ext h0 h) (K : Keep h h' ws) (q : ∀ x ∈ ws, h0.size ≤ x) : Ext h0 h' :=
  ⟨Nat.le_trans E.1 K.1, fun a c r => K.2.1 a c (E.2 a c r) fun z => absurd (Array.getElem?_eq_some_iff.mp r).1 (Nat.not_lt.mpr (q a z))⟩
theorem Ext.wr {h0 h h' : Heap} {a : Addr} {sl : Nat} {v : Value} (E : Ext h0 h) (W : Wr h h' a sl v) (q : h0.size ≤ a) : Ext h0 h' := Ext.keep E (Keep.of_wr W) (allS q all0)
theorem Ext.of_keep {h h' : Heap} (K : Keep h h' []) : Ext h h' := ⟨K.1, fun a c q => K.2.1 a c q nin0⟩
theorem Ext.sta {Z : State} {h h' : Heap} {C n d : String} {v : Value} (E : Ext h h') (F : Sta Z h C n d v) : Sta Z h' C n d v := F.ext E
end Jvm.Pilot.@@N@@.W
/- laws to paste: Road.backV, Road.eqW, Road.codOf (cut by pick.py; bodies as the Statement names them) -/
namespace Jvm.Pilot.@@N@@
namespace StrChars
open Jvm Sem ClassFile Op Lib Jvm.Stand Jvm.Free.XT Jvm.Free.ALB Jvm.Free.JM Jvm.Free
open Jvm.Lib.Cold (StaticIs)
/-- a char array whose places are chars -/
def Ch (a : Addr) (A : Cell) (U : State) : Prop := Arr .char a A U ∧ Typed .char A
theorem Ch.mv {a : Addr} {A : Cell} {U U' : State} (h : Ch a A U) (hal : U.vm.Alike U'.vm) (hh : U'.heap = U.heap) : Ch a A U' := ⟨h.1.mv hal hh, h.2⟩
theorem Ch.keep {a : Addr} {A : Cell} {U U' : State} (h : Ch a A U) (hal : U.vm.Alike U'.vm) (hk : U'.heap[a]? = some A) : Ch a A U' := ⟨h.1.keep hal hk, h.2⟩
/-- what place i of a char[]'s cell holds -/
def cv (A : Cell) (i : Nat) : Int32 := match A.slots[i]? with | some (.int x) => x | _ => 0
theorem Ch.get {a : Addr} {A : Cell} {U : State} (h : Ch a A U) {i : Nat} (hi : i < A.slots.size) : A.slots[i]? = some (.int (cv A i)) := by
  have e := Array.getElem?_eq_getElem hi
  have f := h.2 i _ e
  unfold cv; rw [e]
  generalize A.slots[i] = v at f
  cases v <;> simp [fits] at f ⊢
/-- the byte that i2b leaves of a char -/
def lo8 (x : Int32) : Int32 := x.toInt8.toInt32
theorem fits_lo8 (y : Int32) : fits .byte (.int (lo8 y)) = true := by
  have h1 := y.toInt8.le_toInt
  have h2 := y.toInt8.toInt_lt
  simp only [lo8, fits, Bool.and_eq_true, decide_eq_true_eq, Int32.le_iff_toInt_le, Int8.toInt_toInt32, show (-128 : Int32).toInt = -128 from by decide, show (127 : Int32).toInt = 127 from by decide]
  omega
/-- A' is A but that each place j of lo .. hi - 1 holds f j -/
def Laid (A A' : Cell) (lo hi : Nat) (f : Nat → Value) : Prop := A'.cls = A.cls ∧ A'.vm = A.vm ∧ A'.slots.size = A.slots.size ∧ ∀ i, A'.slots[i]? = if lo ≤ i ∧ i < hi then some (f i) else A.slots[i]?
theorem Laid.zero (A : Cell) (lo : Nat) (f : Nat → Value) : Laid A A lo (lo + 0) f := ⟨rfl, rfl, rfl, fun i => by rw [if_neg (by omega)]⟩
theorem Laid.step {A Ak : Cell} {lo k : Nat} {f : Nat → Value} {v : Value} (h : Laid A Ak lo k f) (hlo : lo ≤ k) (hk : k < Ak.slots.size) (hv : v = f k) : Laid A (Ak.setSlot k v) lo (k + 1) f := by
  refine ⟨h.1, h.2.1, by simpa [Cell.setSlot] using h.2.2.1, fun i => ?_⟩
  by_cases e : k = i
  · subst e; rw [Cell.slots_setSlot_self v hk, if_pos (by omega), hv]
  · rw [Cell.slots_setSlot_ne v e, h.2.2.2 i]
    by_cases q : lo ≤ i ∧ i < k
    · rw [if_pos q, if_pos (by omega)]
    · rw [if_neg q, if_neg (by omega)]
def U16 : String := "java/lang/StringUTF16"
namespace Cmp5
def yN : MethodName := ⟨"java/lang/StringUTF16", "compress", "([CI[BII)I"⟩
abbrev yB : ByteArray := jdk_52_method_21_code
theorem d0 : decode yB 0 = .ok (.iconst 0, 1) := by decide +kernel
theorem d1 : decode yB 1 = .ok (.istore 5, 2) := by decide +kernel
theorem d3 : decode yB 3 = .ok (.iload 5, 2) := by decide +kernel
theorem d5 : decode yB 5 = .ok (.iload 4, 2) := by decide +kernel
theorem d7 : decode yB 7 = .ok (.if_icmp (.ge) 37, 3) := by decide +kernel
theorem d10 : decode yB 10 = .ok (.aload_n 0, 1) := by decide +kernel
theorem d11 : decode yB 11 = .ok (.iload_n 1, 1) := by decide +kernel
theorem d12 : decode yB 12 = .ok (.caload, 1) := by decide +kernel
theorem d13 : decode yB 13 = .ok (.istore 6, 2) := by decide +kernel
theorem d15 : decode yB 15 = .ok (.iload 6, 2) := by decide +kernel
theorem d17 : decode yB 17 = .ok (.sipush 255, 3) := by decide +kernel
theorem d20 : decode yB 20 = .ok (.if_icmp (.le) 6, 3) := by decide +kernel
theorem d26 : decode yB 26 = .ok (.aload_n 2, 1) := by decide +kernel
theorem d27 : decode yB 27 = .ok (.iload_n 3, 1) := by decide +kernel
theorem d28 : decode yB 28 = .ok (.iload 6, 2) := by decide +kernel
theorem d30 : decode yB 30 = .ok (.i2b, 1) := by decide +kernel
theorem d31 : decode yB 31 = .ok (.bastore, 1) := by decide +kernel
theorem d32 : decode yB 32 = .ok (.iinc 1 1, 3) := by decide +kernel
theorem d35 : decode yB 35 = .ok (.iinc 3 1, 3) := by decide +kernel
theorem d38 : decode yB 38 = .ok (.iinc 5 1, 3) := by decide +kernel
theorem d41 : decode yB 41 = .ok (.goto (-38), 3) := by decide +kernel
theorem d44 : decode yB 44 = .ok (.iload 4, 2) := by decide +kernel
theorem d46 : decode yB 46 = .ok (.ireturn, 1) := by decide +kernel
def site : List Cond := []
def tab : Cond := tabOf yN yB 7 (some .int) site
def P (b : Addr) (A : Cell) (d : Addr) (B : Cell) (o q len : Nat) (args : Array Value) (s : State) : Prop := args = #[.ref b, .int (Int32.ofNat o), .ref d, .int (Int32.ofNat q), .int (Int32.ofNat len)] ∧ Ch b A s ∧ Arr .byte d B s ∧ b ≠ d ∧ o + len ≤ A.slots.size ∧ q + len ≤ B.slots.size ∧ ∀ i, i < len → ¬ 255 < cv A (o + i)
def E (b : Addr) (A : Cell) (d : Addr) (B : Cell) (o q len : Nat) (r : Option Value) (s u : State) : Prop := r = some (.int (Int32.ofNat len)) ∧ ∃ B', Put d B' s u ∧ Laid B B' q (q + len) (fun j => Value.int (lo8 (cv A (o + (j - q)))))
/-- no char of the range above 255: len; the places written hold each char's low byte -/
theorem law (l : Launch) (b : Addr) (A : Cell) (d : Addr) (B : Cell) (o q len : Nat) : Law l yN 5 5 0 0 yB 7 (some .int) site (P b A d B o q len) (E b A d B o q len) (copyLocs d q len) 0 0 := by
  refine Law.of_walk (plainFor_of_name (by decide +kernel)) (by decide +kernel) (by decide +kernel) (by decide) (fun _ _ h => by rw [h.1]; rfl) (fun _ U U' hal hh h => ⟨h.1, h.2.1.mv hal hh, h.2.2.1.mv hal hh, h.2.2.2⟩) (fun r U U' V V' h1 hal h2 h => ⟨h.1, h.2.elim fun B' q => ⟨B', q.1.mv h1 h2, q.2⟩⟩) ?_
  intro p e s m args below meth c s₁ X0 hexec hbytes hml hret hlk hnm hown hh0 W hP
  obtain ⟨rfl, hA, hB, hne, l1, l2, hp⟩ := hP
  have c1 : Steps p.tables e below (s₁.setTop (entryFrame m #[.ref b, .int (Int32.ofNat o), .ref d, .int (Int32.ofNat q), .int (Int32.ofNat len)] 7)) (s₁.setTop (mkF m 0 #[.val (.ref b), .val (.int (Int32.ofNat o)), .val (.ref d), .val (.int (Int32.ofNat q)), .val (.int (Int32.ofNat len)), .unset, .unset] [])) := entry rfl
  have hA0 := hA.1.mv X0.warmed.alike hh0
  have hB0 := hB.mv X0.warmed.alike hh0
  have a31 := hA.1.2.2.2
  have c2 : Steps p.tables e below (s₁.setTop (entryFrame m #[.ref b, .int (Int32.ofNat o), .ref d, .int (Int32.ofNat q), .int (Int32.ofNat len)] 7)) (s₁.setTop (mkF m 3 #[.val (.ref b), .val (.int (Int32.ofNat o)), .val (.ref d), .val (.int (Int32.ofNat q)), .val (.int (Int32.ofNat len)), .val (.int 0), .unset] [])) := c1.trans (by
    refine iconstV X0.here hexec rfl 0 (hb hbytes d0) (by decide) ?_
    refine XS.istore X0.here hexec rfl (hb hbytes d1) rfl rfl ?_
    exact Steps.refl _)
  have loop : ∀ (r i : Nat), i + r = len → ∀ (z : Slot), (z = .unset ∨ ∃ w, z = .val w ∧ w.category = 1) → ∀ (Tl : State) (Bk : Cell), Stand p l e { frames := 0, locals := 0, cells := 0, slots := 0 } s m #[.ref b, .int (Int32.ofNat o), .ref d, .int (Int32.ofNat q), .int (Int32.ofNat len)] below meth c Tl ([] ++ copyLocs d q i) 0 0 → Put d Bk s₁ Tl → Laid B Bk q (q + i) (fun j => Value.int (lo8 (cv A (o + (j - q))))) →
      Steps p.tables e below (s₁.setTop (entryFrame m #[.ref b, .int (Int32.ofNat o), .ref d, .int (Int32.ofNat q), .int (Int32.ofNat len)] 7)) (Tl.setTop (mkF m 3 #[.val (.ref b), .val (.int (Int32.ofNat (o + i))), .val (.ref d), .val (.int (Int32.ofNat (q + i))), .val (.int (Int32.ofNat len)), .val (.int (Int32.ofNat i)), z] [])) → ∃ (T' : State) (B' : Cell) (z' : Slot), Stand p l e { frames := 0, locals := 0, cells := 0, slots := 0 } s m #[.ref b, .int (Int32.ofNat o), .ref d, .int (Int32.ofNat q), .int (Int32.ofNat len)] below meth c T' ([] ++ copyLocs d q len) 0 0 ∧ Put d B' s₁ T' ∧ Laid B B' q (q + len) (fun j => Value.int (lo8 (cv A (o + (j - q))))) ∧
      Steps p.tables e below (s₁.setTop (entryFrame m #[.ref b, .int (Int32.ofNat o), .ref d, .int (Int32.ofNat q), .int (Int32.ofNat len)] 7)) (T'.setTop (mkF m 3 #[.val (.ref b), .val (.int (Int32.ofNat (o + len))), .val (.ref d), .val (.int (Int32.ofNat (q + len))), .val (.int (Int32.ofNat len)), .val (.int (Int32.ofNat len)), z'] [])) := by
    intro r
    induction r with
    | zero =>
      intro i hi z hz Tl Bk Xl pl fl cl
      have hil : i = len := by omega
      rw [hil] at Xl fl cl
      exact ⟨Tl, Bk, z, Xl, pl, fl, cl⟩
    | succ r ih =>
      intro i hi z hz Tl Bk Xl pl fl cl
      have all := X0.warmed.alike.symm.trans Xl.warmed.alike
      have hAl := hA0.keep all (pl.other hne hA0.1)
      have hBk := hB0.like all pl.1 fl.1 fl.2.1 fl.2.2.1
      have hlt : q + i < Bk.slots.size := by rw [fl.2.2.1]; omega
      have c3 : Steps p.tables e below (s₁.setTop (entryFrame m #[.ref b, .int (Int32.ofNat o), .ref d, .int (Int32.ofNat q), .int (Int32.ofNat len)] 7)) (Tl.setTop (mkF m 12 #[.val (.ref b), .val (.int (Int32.ofNat (o + i))), .val (.ref d), .val (.int (Int32.ofNat (q + i))), .val (.int (Int32.ofNat len)), .val (.int (Int32.ofNat i)), z] [.int (Int32.ofNat (o + i)), .ref b])) := cl.trans (by
        refine XS.iload Xl.here hexec rfl (hb hbytes d3) rfl ?_
        refine XS.iload Xl.here hexec rfl (hb hbytes d5) rfl ?_
        refine XS.icmpNo Xl.here hexec rfl (hb hbytes d7) rfl (ii_ge_f (lt32 (by omega) (by omega))) ?_
        refine XS.aloadN Xl.here hexec rfl (hb hbytes d10) rfl rfl ?_
        refine XS.iloadN Xl.here hexec rfl (hb hbytes d11) rfl ?_
        exact Steps.refl _)
      have c4 : Steps p.tables e below (s₁.setTop (entryFrame m #[.ref b, .int (Int32.ofNat o), .ref d, .int (Int32.ofNat q), .int (Int32.ofNat len)] 7)) (Tl.setTop (mkF m 13 #[.val (.ref b), .val (.int (Int32.ofNat (o + i))), .val (.ref d), .val (.int (Int32.ofNat (q + i))), .val (.int (Int32.ofNat len)), .val (.int (Int32.ofNat i)), z] [.int (cv A (o + i))])) := c3.trans (by
        refine Xl.aget hexec hAl rfl (hA.get (i := o + i) (by omega)) rfl rfl (hb hbytes d12) ?_
        exact Steps.refl _)
      have c5 : Steps p.tables e below (s₁.setTop (entryFrame m #[.ref b, .int (Int32.ofNat o), .ref d, .int (Int32.ofNat q), .int (Int32.ofNat len)] 7)) (Tl.setTop (mkF m 15 #[.val (.ref b), .val (.int (Int32.ofNat (o + i))), .val (.ref d), .val (.int (Int32.ofNat (q + i))), .val (.int (Int32.ofNat len)), .val (.int (Int32.ofNat i)), .val (.int (cv A (o + i)))] [])) := c4.trans (by
        refine XS.istoreS Xl.here hexec rfl (hb hbytes d13) rfl rfl hz ?_
        exact Steps.refl _)
      have c6 : Steps p.tables e below (s₁.setTop (entryFrame m #[.ref b, .int (Int32.ofNat o), .ref d, .int (Int32.ofNat q), .int (Int32.ofNat len)] 7)) (Tl.setTop (mkF m 31 #[.val (.ref b), .val (.int (Int32.ofNat (o + i))), .val (.ref d), .val (.int (Int32.ofNat (q + i))), .val (.int (Int32.ofNat len)), .val (.int (Int32.ofNat i)), .val (.int (cv A (o + i)))] [.int (lo8 (cv A (o + i))), .int (Int32.ofNat (q + i)), .ref d])) := c5.trans (by
        refine XS.iload Xl.here hexec rfl (hb hbytes d15) rfl ?_
        refine sipushV Xl.here hexec rfl 255 (hb hbytes d17) (by decide) ?_
        refine XS.icmpYes Xl.here hexec rfl (pc0 := 20) rfl (hb hbytes d20) rfl (ii_le_t (hp i (by omega))) (by decide) rfl ?_
        refine XS.aloadN Xl.here hexec rfl (hb hbytes d26) rfl rfl ?_
        refine XS.iloadN Xl.here hexec rfl (hb hbytes d27) rfl ?_
        refine XS.iload Xl.here hexec rfl (hb hbytes d28) rfl ?_
        refine i2b Xl.here hexec rfl (hb hbytes d30) rfl ?_
        exact Steps.refl _)
      obtain ⟨T7, X7, p7, st7⟩ := Xl.aput hexec hBk rfl hlt rfl (fits_lo8 (cv A (o + i))) (g := (mkF m 31 #[.val (.ref b), .val (.int (Int32.ofNat (o + i))), .val (.ref d), .val (.int (Int32.ofNat (q + i))), .val (.int (Int32.ofNat len)), .val (.int (Int32.ofNat i)), .val (.int (cv A (o + i)))] [.int (lo8 (cv A (o + i))), .int (Int32.ofNat (q + i)), .ref d])) rfl (rest := []) rfl (hb hbytes d31)
      have c8 : Steps p.tables e below (s₁.setTop (entryFrame m #[.ref b, .int (Int32.ofNat o), .ref d, .int (Int32.ofNat q), .int (Int32.ofNat len)] 7)) (T7.setTop (mkF m 32 #[.val (.ref b), .val (.int (Int32.ofNat (o + i))), .val (.ref d), .val (.int (Int32.ofNat (q + i))), .val (.int (Int32.ofNat len)), .val (.int (Int32.ofNat i)), .val (.int (cv A (o + i)))] [])) := c6.trans (st7 _ (Steps.refl _))
      have c9 : Steps p.tables e below (s₁.setTop (entryFrame m #[.ref b, .int (Int32.ofNat o), .ref d, .int (Int32.ofNat q), .int (Int32.ofNat len)] 7)) (T7.setTop (mkF m 3 #[.val (.ref b), .val (.int (Int32.ofNat (o + i) + 1)), .val (.ref d), .val (.int (Int32.ofNat (q + i) + 1)), .val (.int (Int32.ofNat len)), .val (.int (Int32.ofNat i + 1)), .val (.int (cv A (o + i)))] [])) := c8.trans (by
        refine iincV X7.here hexec rfl 1 (hb hbytes d32) (by decide) rfl rfl ?_
        refine iincV X7.here hexec rfl 1 (hb hbytes d35) (by decide) rfl rfl ?_
        refine iincV X7.here hexec rfl 1 (hb hbytes d38) (by decide) rfl rfl ?_
        refine XS.goto X7.here hexec rfl (pc0 := 41) rfl (hb hbytes d41) (by decide) rfl ?_
        exact Steps.refl _)
      have c10 : Steps p.tables e below (s₁.setTop (entryFrame m #[.ref b, .int (Int32.ofNat o), .ref d, .int (Int32.ofNat q), .int (Int32.ofNat len)] 7)) (T7.setTop (mkF m 3 #[.val (.ref b), .val (.int (Int32.ofNat (o + (i + 1)))), .val (.ref d), .val (.int (Int32.ofNat (q + (i + 1)))), .val (.int (Int32.ofNat len)), .val (.int (Int32.ofNat (i + 1))), .val (.int (cv A (o + i)))] [])) := by
        have := c9
        rw [succ32, succ32, succ32] at this
        exact this
      exact ih (i + 1) (by omega) _ (Or.inr ⟨_, rfl, rfl⟩) T7 _ (by rw [copyLocs_step, ← List.append_assoc]; exact X7) (pl.trans p7) (fl.step (by omega) hlt (by simp)) c10
  obtain ⟨T9, B9, z9, X9, p9, f9, g9⟩ := loop len 0 (by omega) .unset (Or.inl rfl) s₁ B (by simpa [copyLocs] using X0) ⟨hB0.1, fun _ _ => rfl, rfl⟩ (Laid.zero _ _ _) c2
  have c11 : Steps p.tables e below (s₁.setTop (entryFrame m #[.ref b, .int (Int32.ofNat o), .ref d, .int (Int32.ofNat q), .int (Int32.ofNat len)] 7)) (T9.setTop (mkF m 46 #[.val (.ref b), .val (.int (Int32.ofNat (o + len))), .val (.ref d), .val (.int (Int32.ofNat (q + len))), .val (.int (Int32.ofNat len)), .val (.int (Int32.ofNat len)), z9] [.int (Int32.ofNat len)])) := g9.trans (by
    refine XS.iload X9.here hexec rfl (hb hbytes d3) rfl ?_
    refine XS.iload X9.here hexec rfl (hb hbytes d5) rfl ?_
    refine XS.icmpYes X9.here hexec rfl (pc0 := 7) rfl (hb hbytes d7) rfl (ii_ge_t (nlt32 (by omega) (Nat.le_refl _))) (by decide) rfl ?_
    refine XS.iload X9.here hexec rfl (hb hbytes d44) rfl ?_
    exact Steps.refl _)
  exact ⟨T9, some (.int (Int32.ofNat len)), _, _, _, X9, by simp, rfl, rfl, (fun h => by cases h), ⟨rfl, B9, p9.from hh0, f9⟩, fun fs hl => c11.trans (X9.ireturnOut hexec hret rfl (Or.inl rfl) (hb hbytes d46) hl)⟩
end Cmp5
namespace Cmp3
def yN : MethodName := ⟨"java/lang/StringUTF16", "compress", "([CII)[B"⟩
abbrev yB : ByteArray := jdk_52_method_16_code
theorem d0 : decode yB 0 = .ok (.iload_n 2, 1) := by decide +kernel
theorem d1 : decode yB 1 = .ok (.newarray .byte, 2) := by decide +kernel
theorem d3 : decode yB 3 = .ok (.astore_n 3, 1) := by decide +kernel
theorem d4 : decode yB 4 = .ok (.aload_n 0, 1) := by decide +kernel
theorem d5 : decode yB 5 = .ok (.iload_n 1, 1) := by decide +kernel
theorem d6 : decode yB 6 = .ok (.aload_n 3, 1) := by decide +kernel
theorem d7 : decode yB 7 = .ok (.iconst 0, 1) := by decide +kernel
theorem d8 : decode yB 8 = .ok (.iload_n 2, 1) := by decide +kernel
theorem d9 : decode yB 9 = .ok (.invokestatic 115, 3) := by decide +kernel
theorem d12 : decode yB 12 = .ok (.istore 4, 2) := by decide +kernel
theorem d14 : decode yB 14 = .ok (.iload 4, 2) := by decide +kernel
theorem d16 : decode yB 16 = .ok (.iload_n 2, 1) := by decide +kernel
theorem d17 : decode yB 17 = .ok (.if_icmp (.eq) 40, 3) := by decide +kernel
theorem d57 : decode yB 57 = .ok (.aload_n 3, 1) := by decide +kernel
theorem d58 : decode yB 58 = .ok (.areturn, 1) := by decide +kernel
def site : List Cond := [.arrayClass .byte, Cmp5.tab] ++ staticW U16 115 Cmp5.yN
def tab : Cond := tabOf yN yB 6 (some (.array .byte)) site
def P (b : Addr) (A : Cell) (o len : Nat) (args : Array Value) (s : State) : Prop := args = #[.ref b, .int (Int32.ofNat o), .int (Int32.ofNat len)] ∧ Ch b A s ∧ o + len ≤ A.slots.size ∧ len ≤ 536870912 ∧ ∀ i, i < len → ¬ 255 < cv A (o + i)
def E (b : Addr) (A : Cell) (o len : Nat) (r : Option Value) (s u : State) : Prop := NewArr .byte "[B" len (fun j => .int (lo8 (cv A (o + j)))) r s u ∧ u.heap.size = s.heap.size + 1
/-- no char of the range above 255: a new byte[] of their low bytes -/
theorem law (l : Launch) (b : Addr) (A : Cell) (o len : Nat) : Law l yN 3 3 1 18 yB 6 (some (.array .byte)) site (P b A o len) (E b A o len) [] 1 len := by
  refine Law.of_walk (plainFor_of_name (by decide +kernel)) (by decide +kernel) (by decide +kernel) (by decide) (fun _ _ h => by rw [h.1]; rfl) (fun _ U U' hal hh h => ⟨h.1, h.2.1.mv hal hh, h.2.2⟩) (fun r U U' V V' h1 hal h2 h => ⟨NewArr.mv r U U' V V' h1 hal h2 h.1, by rw [h1, h2]; exact h.2⟩) ?_
  intro p e s m args below meth c s₁ X0 hexec hbytes hml hret hlk hnm hown hh0 W hP
  obtain ⟨rfl, hA, l1, l2, hp⟩ := hP
  have a31 := hA.1.2.2.2
  have c1 : Steps p.tables e below (s₁.setTop (entryFrame m #[.ref b, .int (Int32.ofNat o), .int (Int32.ofNat len)] 6)) (s₁.setTop (mkF m 0 #[.val (.ref b), .val (.int (Int32.ofNat o)), .val (.int (Int32.ofNat len)), .unset, .unset, .unset] [])) := entry rfl
  have c2 : Steps p.tables e below (s₁.setTop (entryFrame m #[.ref b, .int (Int32.ofNat o), .int (Int32.ofNat len)] 6)) (s₁.setTop (mkF m 1 #[.val (.ref b), .val (.int (Int32.ofNat o)), .val (.int (Int32.ofNat len)), .unset, .unset, .unset] [.int (Int32.ofNat len)])) := c1.trans (by
    refine XS.iloadN X0.here hexec rfl (hb hbytes d0) rfl ?_
    exact Steps.refl _)
  obtain ⟨T3, B3, X3, ba3, bs3, bv3, bh3, bf3, st3⟩ := X0.anew hexec (atype := .byte) (wk W (.arrayClass .byte)) rfl (by show len * 1 ≤ _; omega) (by omega) (g := (mkF m 1 #[.val (.ref b), .val (.int (Int32.ofNat o)), .val (.int (Int32.ofNat len)), .unset, .unset, .unset] [.int (Int32.ofNat len)])) rfl (hb hbytes d1) (rest := []) rfl (Nat.le_refl _) (by show 0 + len ≤ len; omega)
  rw [hh0] at ba3 st3
  have kp3 : XT.Kept s T3 := (XT.Kept.of_eq hh0).push bh3
  have hA3 := hA.keep X3.warmed.alike (kp3 _ _ hA.1.1)
  have hne : b ≠ s.heap.size := hA.1.ne
  have c4 : Steps p.tables e below (s₁.setTop (entryFrame m #[.ref b, .int (Int32.ofNat o), .int (Int32.ofNat len)] 6)) (T3.setTop (mkF m 3 #[.val (.ref b), .val (.int (Int32.ofNat o)), .val (.int (Int32.ofNat len)), .unset, .unset, .unset] [.ref s.heap.size])) := c2.trans (st3 _ (Steps.refl _))
  have c5 : Steps p.tables e below (s₁.setTop (entryFrame m #[.ref b, .int (Int32.ofNat o), .int (Int32.ofNat len)] 6)) (T3.setTop (mkF m 9 #[.val (.ref b), .val (.int (Int32.ofNat o)), .val (.int (Int32.ofNat len)), .val (.ref s.heap.size), .unset, .unset] [.int (Int32.ofNat len), .int 0, .ref s.heap.size, .int (Int32.ofNat o), .ref b])) := c4.trans (by
    refine XS.astoreN X3.here hexec rfl (hb hbytes d3) rfl rfl rfl ?_
    refine XS.aloadN X3.here hexec rfl (hb hbytes d4) rfl rfl ?_
    refine XS.iloadN X3.here hexec rfl (hb hbytes d5) rfl ?_
    refine XS.aloadN X3.here hexec rfl (hb hbytes d6) rfl rfl ?_
    refine iconstV X3.here hexec rfl 0 (hb hbytes d7) (by decide) ?_
    refine XS.iloadN X3.here hexec rfl (hb hbytes d8) rfl ?_
    exact Steps.refl _)
  obtain ⟨v6, T6, X6, E6, g6⟩ := X3.callS hexec (Cmp5.law l b A s.heap.size B3 o 0 len) hown (wks W (staticW U16 115 Cmp5.yN)) (wk W Cmp5.tab) (W := 0) (Nat.le_of_ble_eq_true rfl) (Nat.le_of_ble_eq_true rfl) (Nat.le_refl _) (by show 0 + len + 0 ≤ len; omega) (g := (mkF m 9 #[.val (.ref b), .val (.int (Int32.ofNat o)), .val (.int (Int32.ofNat len)), .val (.ref s.heap.size), .unset, .unset] [.int (Int32.ofNat len), .int (Int32.ofNat 0), .ref s.heap.size, .int (Int32.ofNat o), .ref b])) rfl (by rw [hml]; rfl) c5 (argsL := [.ref b, .int (Int32.ofNat o), .ref s.heap.size, .int (Int32.ofNat 0), .int (Int32.ofNat len)]) (rest := []) rfl rfl (by show 2 * 0 + 0 ≤ _; decide) (hb hbytes d9) (⟨rfl, hA3, ba3, hne, l1, by rw [bs3]; simp, hp⟩)
  obtain ⟨rfl, B6, p6, f6⟩ := E6
  have c7 : Steps p.tables e below (s₁.setTop (entryFrame m #[.ref b, .int (Int32.ofNat o), .int (Int32.ofNat len)] 6)) (T6.setTop (mkF m 12 #[.val (.ref b), .val (.int (Int32.ofNat o)), .val (.int (Int32.ofNat len)), .val (.ref s.heap.size), .unset, .unset] [.int (Int32.ofNat len)])) := g6
  have c8 : Steps p.tables e below (s₁.setTop (entryFrame m #[.ref b, .int (Int32.ofNat o), .int (Int32.ofNat len)] 6)) (T6.setTop (mkF m 58 #[.val (.ref b), .val (.int (Int32.ofNat o)), .val (.int (Int32.ofNat len)), .val (.ref s.heap.size), .val (.int (Int32.ofNat len)), .unset] [.ref s.heap.size])) := c7.trans (by
    refine XS.istore X6.here hexec rfl (hb hbytes d12) rfl rfl ?_
    refine XS.iload X6.here hexec rfl (hb hbytes d14) rfl ?_
    refine XS.iloadN X6.here hexec rfl (hb hbytes d16) rfl ?_
    refine XS.icmpYes X6.here hexec rfl (pc0 := 17) rfl (hb hbytes d17) rfl (ii_eq_t rfl) (by decide) rfl ?_
    refine XS.aloadN X6.here hexec rfl (hb hbytes d57) rfl rfl ?_
    exact Steps.refl _)
  have X8 := X6.wide (L' := []) (cells' := 1) (slots' := len) (fun x hx hlt => by
    simp only [List.nil_append, copyLocs, List.mem_map, List.mem_range] at hx
    obtain ⟨i, -, rfl⟩ := hx
    exact absurd hlt (Nat.lt_irrefl _)) (Nat.le_refl _) (by omega)
  exact ⟨T6, some (.ref s.heap.size), _, _, _, X8, rfl, rfl, rfl, (fun h => by cases h), ⟨⟨rfl, B6, ba3.like (X3.warmed.alike.symm.trans X6.warmed.alike) p6.1 f6.1 f6.2.1 f6.2.2.1, f6.2.1.trans bv3, by rw [X6.warmed.alike.findClass, f6.1]; exact bf3, by rw [f6.2.2.1, bs3]; simp, fun j hj => by rw [f6.2.2.2 j, if_pos (by omega)]; rfl, kp3.put p6 (Nat.le_refl _)⟩, by rw [p6.2.2, bh3, hh0]; simp⟩, fun fs hl => c8.trans (X8.areturnOut hexec rfl hret rfl (hb hbytes d58) hl)⟩
end Cmp3
namespace CodL
def yN : MethodName := ⟨"java/lang/StringUTF16", "coderFromArrayLen", "([BI)B"⟩
abbrev yB : ByteArray := jdk_52_method_15_code
theorem d0 : decode yB 0 = .ok (.iload_n 1, 1) := by decide +kernel
theorem d1 : decode yB 1 = .ok (.aload_n 0, 1) := by decide +kernel
theorem d2 : decode yB 2 = .ok (.arraylength, 1) := by decide +kernel
theorem d3 : decode yB 3 = .ok (.isub, 1) := by decide +kernel
theorem d4 : decode yB 4 = .ok (.bipush 31, 2) := by decide +kernel
theorem d6 : decode yB 6 = .ok (.iushr, 1) := by decide +kernel
theorem d7 : decode yB 7 = .ok (.i2b, 1) := by decide +kernel
theorem d8 : decode yB 8 = .ok (.ireturn, 1) := by decide +kernel
def site : List Cond := []
def tab : Cond := tabOf yN yB 2 (some .byte) site
def P (d : Addr) (B : Cell) (args : Array Value) (s : State) : Prop := args = #[.ref d, .int (Int32.ofNat B.slots.size)] ∧ Arr .byte d B s
def E (r : Option Value) (s u : State) : Prop := XT.PureE (some (.int 0)) r s u
/-- an array as long as the number of chars: LATIN1 -/
theorem law (l : Launch) (d : Addr) (B : Cell) : Law l yN 2 2 0 0 yB 2 (some .byte) site (P d B) E [] 0 0 := by
  refine Law.of_walk (plainFor_of_name (by decide +kernel)) (by decide +kernel) (by decide +kernel) (by decide) (fun _ _ h => by rw [h.1]; rfl) (fun _ U U' hal hh h => ⟨h.1, h.2.mv hal hh⟩) (fun r U U' V V' h1 hal h2 h => XT.PureE.mv r U U' V V' h1 hal h2 h) ?_
  intro p e s m args below meth c s₁ X0 hexec hbytes hml hret hlk hnm hown hh0 W hP
  obtain ⟨rfl, hB⟩ := hP
  have hB0 := hB.mv X0.warmed.alike hh0
  have c1 : Steps p.tables e below (s₁.setTop (entryFrame m #[.ref d, .int (Int32.ofNat B.slots.size)] 2)) (s₁.setTop (mkF m 0 #[.val (.ref d), .val (.int (Int32.ofNat B.slots.size))] [])) := entry rfl
  have c2 : Steps p.tables e below (s₁.setTop (entryFrame m #[.ref d, .int (Int32.ofNat B.slots.size)] 2)) (s₁.setTop (mkF m 2 #[.val (.ref d), .val (.int (Int32.ofNat B.slots.size))] [.ref d, .int (Int32.ofNat B.slots.size)])) := c1.trans (by
    refine XS.iloadN X0.here hexec rfl (hb hbytes d0) rfl ?_
    refine XS.aloadN X0.here hexec rfl (hb hbytes d1) rfl rfl ?_
    exact Steps.refl _)
  have c3 : Steps p.tables e below (s₁.setTop (entryFrame m #[.ref d, .int (Int32.ofNat B.slots.size)] 2)) (s₁.setTop (mkF m 8 #[.val (.ref d), .val (.int (Int32.ofNat B.slots.size))] [.int (lo8 (ushr (Int32.ofNat B.slots.size - Int32.ofNat B.slots.size) 31))])) := c2.trans (by
    refine X0.alen hexec hB0 rfl rfl (hb hbytes d2) ?_
    refine XS.isub X0.here hexec rfl (hb hbytes d3) rfl ?_
    refine bipushV X0.here hexec rfl 31 (hb hbytes d4) (by decide) ?_
    refine iushr X0.here hexec rfl (hb hbytes d6) rfl ?_
    refine i2b X0.here hexec rfl (hb hbytes d7) rfl ?_
    exact Steps.refl _)
  have e0 : lo8 (ushr (Int32.ofNat B.slots.size - Int32.ofNat B.slots.size) 31) = 0 := by rw [Int32.sub_self]; decide
  rw [e0] at c3
  exact ⟨s₁, some (.int 0), _, _, _, X0, rfl, rfl, rfl, (fun h => by cases h), ⟨rfl, hh0⟩, fun fs hl => c3.trans (X0.ireturnOut hexec hret rfl (Or.inr (Or.inr (Or.inl rfl))) (hb hbytes d8) hl)⟩
end CodL
/-- the String at a is Latin-1 over a new byte[] (the heap's one new cell): the low bytes of the len chars of A from o on; every cell but a is kept -/
def Got (a : Addr) (D : Cell) (fV fC : Field) (A : Cell) (o len : Nat) (r : Option Value) (s u : State) : Prop := r = none ∧ ∃ D' V : Cell, Blank "java/lang/String" a D' u ∧ Same D D' [fV.slot, fC.slot] ∧ D'.slots[fV.slot]? = some (.ref s.heap.size) ∧ D'.slots[fC.slot]? = some (.int 0) ∧ Arr .byte s.heap.size V u ∧ V.vm = .none ∧ u.vm.findClass "[B" = some V.cls ∧ V.slots.size = len ∧ (∀ j, j < len → V.slots[j]? = some (.int (lo8 (cv A (o + j))))) ∧ (∀ (y : Addr) (c : Cell), y ≠ a → s.heap[y]? = some c → u.heap[y]? = some c) ∧ u.heap.size = s.heap.size + 1
theorem Got.mv {a : Addr} {D A : Cell} {fV fC : Field} {o len : Nat} : ∀ r (U U' V V' : State), U'.heap = U.heap → V.vm.Alike V'.vm → V'.heap = V.heap → Got a D fV fC A o len r U V → Got a D fV fC A o len r U' V' :=
  fun r U U' V V' h1 hal h2 ⟨e0, D', X, a1, a2, a3, a4, a5, a6, a7, a8, a9, a10, a11⟩ => ⟨e0, D', X, a1.mv hal h2, a2, by rw [h1]; exact a3, a4, by rw [h1]; exact a5.mv hal h2, a6, by rw [hal.findClass]; exact a7, a8, a9, by rw [h1, h2]; exact a10, by rw [h1, h2]; exact a11⟩
namespace New4
def yN : MethodName := ⟨"java/lang/String", "<init>", "([CIILjava/lang/Void;)V"⟩
abbrev yB : ByteArray := jdk_42_method_149_code
theorem d0 : decode yB 0 = .ok (.aload_n 0, 1) := by decide +kernel
theorem d1 : decode yB 1 = .ok (.invokespecial 1, 3) := by decide +kernel
theorem d4 : decode yB 4 = .ok (.iload_n 3, 1) := by decide +kernel
theorem d5 : decode yB 5 = .ok (.ifCond (.ne) 22, 3) := by decide +kernel
theorem d27 : decode yB 27 = .ok (.getstatic 38, 3) := by decide +kernel
theorem d30 : decode yB 30 = .ok (.ifCond (.eq) 28, 3) := by decide +kernel
theorem d33 : decode yB 33 = .ok (.aload_n 1, 1) := by decide +kernel
theorem d34 : decode yB 34 = .ok (.iload_n 2, 1) := by decide +kernel
theorem d35 : decode yB 35 = .ok (.iload_n 3, 1) := by decide +kernel
theorem d36 : decode yB 36 = .ok (.invokestatic 177, 3) := by decide +kernel
theorem d39 : decode yB 39 = .ok (.astore 5, 2) := by decide +kernel
theorem d41 : decode yB 41 = .ok (.aload_n 0, 1) := by decide +kernel
theorem d42 : decode yB 42 = .ok (.aload 5, 2) := by decide +kernel
theorem d44 : decode yB 44 = .ok (.iload_n 3, 1) := by decide +kernel
theorem d45 : decode yB 45 = .ok (.invokestatic 47, 3) := by decide +kernel
theorem d48 : decode yB 48 = .ok (.putfield 15, 3) := by decide +kernel
theorem d51 : decode yB 51 = .ok (.aload_n 0, 1) := by decide +kernel
theorem d52 : decode yB 52 = .ok (.aload 5, 2) := by decide +kernel
theorem d54 : decode yB 54 = .ok (.putfield 9, 3) := by decide +kernel
theorem d57 : decode yB 57 = .ok (.return_, 1) := by decide +kernel
def site : List Cond := [.fieldLink "java/lang/String" 38 "java/lang/String" "COMPACT_STRINGS" "Z", Cmp3.tab, CodL.tab, .laysFinal "java/lang/String" "java/lang/String" "value" "[B", .fieldLink "java/lang/String" 9 "java/lang/String" "value" "[B", .laysFinal "java/lang/String" "java/lang/String" "coder" "B", .fieldLink "java/lang/String" 15 "java/lang/String" "coder" "B"] ++ objW "java/lang/String" 1 ++ staticW "java/lang/String" 177 Cmp3.yN ++ staticW "java/lang/String" 47 CodL.yN
def tab : Cond := tabOf yN yB 6 none site
def P (a : Addr) (D : Cell) (fV fC : Field) (b : Addr) (A : Cell) (z : Int32) (o len : Nat) (args : Array Value) (s : State) : Prop := args = #[.ref a, .ref b, .int (Int32.ofNat o), .int (Int32.ofNat len), .null] ∧ Blank "java/lang/String" a D s ∧ Found "java/lang/String" "value" "[B" fV s ∧ Found "java/lang/String" "coder" "B" fC s ∧ Ch b A s ∧ StaticIs s "java/lang/String" "COMPACT_STRINGS" "Z" (.int z) ∧ ¬ z = 0 ∧ 0 < len ∧ o + len ≤ A.slots.size ∧ len ≤ 536870912 ∧ ∀ i, i < len → ¬ 255 < cv A (o + i)
def E (a : Addr) (D : Cell) (fV fC : Field) (A : Cell) (o len : Nat) (r : Option Value) (s u : State) : Prop := Got a D fV fC A o len r s u
/-- len > 0, no char of the range above 255: a Latin-1 String of their low bytes -/
theorem law (l : Launch) (a : Addr) (D : Cell) (fV fC : Field) (b : Addr) (A : Cell) (z : Int32) (o len : Nat) : Law l yN 5 4 2 35 yB 6 none site (P a D fV fC b A z o len) (E a D fV fC A o len) [⟨a, fC.slot⟩, ⟨a, fV.slot⟩] 1 len := by
  refine Law.of_walk (plainFor_of_name (by decide +kernel)) (by decide +kernel) (by decide +kernel) (by decide) (fun _ _ h => by rw [h.1]; rfl) (fun _ U U' hal hh h => ⟨h.1, h.2.1.mv hal hh, h.2.2.1.al hal, h.2.2.2.1.al hal, h.2.2.2.2.1.mv hal hh, h.2.2.2.2.2.1.there hal hh, h.2.2.2.2.2.2⟩) (fun r U U' V V' h1 hal h2 h => Got.mv r U U' V V' h1 hal h2 h) ?_
  intro p e s m args below meth c s₁ X0 hexec hbytes hml hret hlk hnm hown hh0 W hP
  obtain ⟨rfl, hB, f1, f2, hA, s1, hz, l0, l1, l2, hp⟩ := hP
  have a31 := hA.1.2.2.2
  have c1 : Steps p.tables e below (s₁.setTop (entryFrame m #[.ref a, .ref b, .int (Int32.ofNat o), .int (Int32.ofNat len), .null] 6)) (s₁.setTop (mkF m 0 #[.val (.ref a), .val (.ref b), .val (.int (Int32.ofNat o)), .val (.int (Int32.ofNat len)), .val .null, .unset] [])) := entry rfl
  have c2 : Steps p.tables e below (s₁.setTop (entryFrame m #[.ref a, .ref b, .int (Int32.ofNat o), .int (Int32.ofNat len), .null] 6)) (s₁.setTop (mkF m 1 #[.val (.ref a), .val (.ref b), .val (.int (Int32.ofNat o)), .val (.int (Int32.ofNat len)), .val .null, .unset] [.ref a])) := c1.trans (by
    refine XS.aloadN X0.here hexec rfl (hb hbytes d0) rfl rfl ?_
    exact Steps.refl _)
  obtain ⟨T3, X3, q3, st3⟩ := X0.oinit hexec hown (wks W (objW "java/lang/String" 1)) (g := (mkF m 1 #[.val (.ref a), .val (.ref b), .val (.int (Int32.ofNat o)), .val (.int (Int32.ofNat len)), .val .null, .unset] [.ref a])) rfl (by rw [hml]; rfl) (rest := []) rfl (hb hbytes d1) (W := 0) (by show 2 * 0 + 0 ≤ _; decide) (Nat.le_of_ble_eq_true rfl) (Nat.le_of_ble_eq_true rfl)
  have hh3 := q3.trans hh0
  have c4 : Steps p.tables e below (s₁.setTop (entryFrame m #[.ref a, .ref b, .int (Int32.ofNat o), .int (Int32.ofNat len), .null] 6)) (T3.setTop (mkF m 27 #[.val (.ref a), .val (.ref b), .val (.int (Int32.ofNat o)), .val (.int (Int32.ofNat len)), .val .null, .unset] [])) := (c2.trans (st3 _ (Steps.refl _))).trans (by
    refine XS.iloadN X3.here hexec rfl (hb hbytes d4) rfl ?_
    refine XS.ifYes X3.here hexec rfl (pc0 := 5) rfl (hb hbytes d5) rfl (i0_ne_t (nz32 (by omega) l0)) (by decide) rfl ?_
    exact Steps.refl _)
  obtain ⟨T5, X5, q5, st5⟩ := X3.sget hexec hown (wk W (.fieldLink "java/lang/String" 38 "java/lang/String" "COMPACT_STRINGS" "Z")) s1 (fun _ _ h => by rw [hh3]; exact h) (g := (mkF m 27 #[.val (.ref a), .val (.ref b), .val (.int (Int32.ofNat o)), .val (.int (Int32.ofNat len)), .val .null, .unset] [])) rfl (hb hbytes d27)
  have hh5 := q5.trans hh3
  have c6 : Steps p.tables e below (s₁.setTop (entryFrame m #[.ref a, .ref b, .int (Int32.ofNat o), .int (Int32.ofNat len), .null] 6)) (T5.setTop (mkF m 30 #[.val (.ref a), .val (.ref b), .val (.int (Int32.ofNat o)), .val (.int (Int32.ofNat len)), .val .null, .unset] [.int z])) := c4.trans (st5 _ (Steps.refl _))
  have c7 : Steps p.tables e below (s₁.setTop (entryFrame m #[.ref a, .ref b, .int (Int32.ofNat o), .int (Int32.ofNat len), .null] 6)) (T5.setTop (mkF m 36 #[.val (.ref a), .val (.ref b), .val (.int (Int32.ofNat o)), .val (.int (Int32.ofNat len)), .val .null, .unset] [.int (Int32.ofNat len), .int (Int32.ofNat o), .ref b])) := c6.trans (by
    refine XS.ifNo X5.here hexec rfl (hb hbytes d30) rfl (i0_eq_f hz) ?_
    refine XS.aloadN X5.here hexec rfl (hb hbytes d33) rfl rfl ?_
    refine XS.iloadN X5.here hexec rfl (hb hbytes d34) rfl ?_
    refine XS.iloadN X5.here hexec rfl (hb hbytes d35) rfl ?_
    exact Steps.refl _)
  obtain ⟨v8, T8, X8, E8, g8⟩ := X5.callS hexec (Cmp3.law l b A o len) hown (wks W (staticW "java/lang/String" 177 Cmp3.yN)) (wk W Cmp3.tab) (W := 0) (Nat.le_of_ble_eq_true rfl) (Nat.le_of_ble_eq_true rfl) (Nat.le_refl _) (by show 0 + len ≤ len; omega) (g := (mkF m 36 #[.val (.ref a), .val (.ref b), .val (.int (Int32.ofNat o)), .val (.int (Int32.ofNat len)), .val .null, .unset] [.int (Int32.ofNat len), .int (Int32.ofNat o), .ref b])) rfl (by rw [hml]; rfl) c7 (argsL := [.ref b, .int (Int32.ofNat o), .int (Int32.ofNat len)]) (rest := []) rfl rfl (by show 2 * 0 + 0 ≤ _; decide) (hb hbytes d36) (⟨rfl, hA.mv X5.warmed.alike hh5, l1, l2, hp⟩)
  obtain ⟨e8, z8⟩ := E8
  obtain ⟨rfl, N, n1, n2, n3, n4, n5, n6⟩ := NewArr.mv _ T5 s _ _ hh5.symm (Vm.Alike.refl _) rfl e8
  rw [hh5] at z8
  have hB1 := hB.keep X8.warmed.alike (n6 _ _ hB.1)
  have hne : s.heap.size ≠ a := (Nat.ne_of_lt (Array.getElem?_eq_some_iff.mp hB.1).1).symm
  have c9 : Steps p.tables e below (s₁.setTop (entryFrame m #[.ref a, .ref b, .int (Int32.ofNat o), .int (Int32.ofNat len), .null] 6)) (T8.setTop (mkF m 39 #[.val (.ref a), .val (.ref b), .val (.int (Int32.ofNat o)), .val (.int (Int32.ofNat len)), .val .null, .unset] [.ref s.heap.size])) := g8
  have c10 : Steps p.tables e below (s₁.setTop (entryFrame m #[.ref a, .ref b, .int (Int32.ofNat o), .int (Int32.ofNat len), .null] 6)) (T8.setTop (mkF m 45 #[.val (.ref a), .val (.ref b), .val (.int (Int32.ofNat o)), .val (.int (Int32.ofNat len)), .val .null, .val (.ref s.heap.size)] [.int (Int32.ofNat N.slots.size), .ref s.heap.size, .ref a])) := by
    have hc : Steps p.tables e below (s₁.setTop (entryFrame m #[.ref a, .ref b, .int (Int32.ofNat o), .int (Int32.ofNat len), .null] 6)) (T8.setTop (mkF m 45 #[.val (.ref a), .val (.ref b), .val (.int (Int32.ofNat o)), .val (.int (Int32.ofNat len)), .val .null, .val (.ref s.heap.size)] [.int (Int32.ofNat len), .ref s.heap.size, .ref a])) := c9.trans (by
      refine XS.astore X8.here hexec rfl (hb hbytes d39) rfl rfl rfl ?_
      refine XS.aloadN X8.here hexec rfl (hb hbytes d41) rfl rfl ?_
      refine XS.aload X8.here hexec rfl (hb hbytes d42) rfl rfl ?_
      refine XS.iloadN X8.here hexec rfl (hb hbytes d44) rfl ?_
      exact Steps.refl _)
    rw [n4]; exact hc
  obtain ⟨v11, T11, X11, E11, g11⟩ := X8.callS hexec (CodL.law l s.heap.size N) hown (wks W (staticW "java/lang/String" 47 CodL.yN)) (wk W CodL.tab) (W := 1) (Nat.le_of_ble_eq_true rfl) (Nat.le_of_ble_eq_true rfl) (Nat.le_refl _) (by show 0 + len + 0 ≤ len; omega) (g := (mkF m 45 #[.val (.ref a), .val (.ref b), .val (.int (Int32.ofNat o)), .val (.int (Int32.ofNat len)), .val .null, .val (.ref s.heap.size)] [.int (Int32.ofNat N.slots.size), .ref s.heap.size, .ref a])) rfl (by rw [hml]; rfl) c10 (argsL := [.ref s.heap.size, .int (Int32.ofNat N.slots.size)]) (rest := [.ref a]) rfl rfl (by show 2 * 0 + (1 + 0) ≤ _; decide) (hb hbytes d45) (⟨rfl, n1⟩)
  obtain ⟨rfl, q11⟩ := E11
  have hB11 := hB1.mv (X8.warmed.alike.symm.trans X11.warmed.alike) q11
  have c12 : Steps p.tables e below (s₁.setTop (entryFrame m #[.ref a, .ref b, .int (Int32.ofNat o), .int (Int32.ofNat len), .null] 6)) (T11.setTop (mkF m 48 #[.val (.ref a), .val (.ref b), .val (.int (Int32.ofNat o)), .val (.int (Int32.ofNat len)), .val .null, .val (.ref s.heap.size)] [.int 0, .ref a])) := g11
  obtain ⟨T13, X13, p13, bl13, sl13, st13⟩ := X11.finit hexec hown (wk W (.fieldLink "java/lang/String" 15 "java/lang/String" "coder" "B")) (Or.inr ⟨_, (wk W (.laysFinal "java/lang/String" "java/lang/String" "coder" "B"))⟩) (Or.inl ⟨rfl, hnm⟩) f2 (Or.inl rfl) hB11 (t := .byte) (by decide +kernel) rfl (g := (mkF m 48 #[.val (.ref a), .val (.ref b), .val (.int (Int32.ofNat o)), .val (.int (Int32.ofNat len)), .val .null, .val (.ref s.heap.size)] [.int 0, .ref a])) rfl (rest := []) rfl (hb hbytes d48)
  have c14 : Steps p.tables e below (s₁.setTop (entryFrame m #[.ref a, .ref b, .int (Int32.ofNat o), .int (Int32.ofNat len), .null] 6)) (T13.setTop (mkF m 54 #[.val (.ref a), .val (.ref b), .val (.int (Int32.ofNat o)), .val (.int (Int32.ofNat len)), .val .null, .val (.ref s.heap.size)] [.ref s.heap.size, .ref a])) := (c12.trans (st13 _ (Steps.refl _))).trans (by
    refine XS.aloadN X13.here hexec rfl (hb hbytes d51) rfl rfl ?_
    refine XS.aload X13.here hexec rfl (hb hbytes d52) rfl rfl ?_
    exact Steps.refl _)
  obtain ⟨T15, X15, p15, bl15, sl15, st15⟩ := X13.finit hexec hown (wk W (.fieldLink "java/lang/String" 9 "java/lang/String" "value" "[B")) (Or.inr ⟨_, (wk W (.laysFinal "java/lang/String" "java/lang/String" "value" "[B"))⟩) (Or.inl ⟨rfl, hnm⟩) f1 (Or.inl rfl) bl13 (t := (.array .byte)) (by decide +kernel) rfl (g := (mkF m 54 #[.val (.ref a), .val (.ref b), .val (.int (Int32.ofNat o)), .val (.int (Int32.ofNat len)), .val .null, .val (.ref s.heap.size)] [.ref s.heap.size, .ref a])) rfl (rest := []) rfl (hb hbytes d54)
  have c16 : Steps p.tables e below (s₁.setTop (entryFrame m #[.ref a, .ref b, .int (Int32.ofNat o), .int (Int32.ofNat len), .null] 6)) (T15.setTop (mkF m 57 #[.val (.ref a), .val (.ref b), .val (.int (Int32.ofNat o)), .val (.int (Int32.ofNat len)), .val .null, .val (.ref s.heap.size)] [])) := c14.trans (st15 _ (Steps.refl _))
  have ap := apart (Or.inr ⟨_, (wk W (.laysFinal "java/lang/String" "java/lang/String" "value" "[B"))⟩) (Or.inr ⟨_, (wk W (.laysFinal "java/lang/String" "java/lang/String" "coder" "B"))⟩) f1 f2 (t₁ := .array .byte) (t₂ := .byte) (by decide +kernel) (by decide +kernel) (by decide)
  have al := X8.warmed.alike.symm.trans X15.warmed.alike
  have n7 : T11.heap[s.heap.size]? = some N := by rw [q11]; exact n1.1
  exact ⟨T15, none, _, _, _, X15, by simp, rfl, by omega, (fun _ => rfl), ⟨rfl, _, N, bl15, ((Same.refl D _).set _ (by simp)).set _ (by simp), sl15, (Cell.slots_setSlot_ne _ ap).trans sl13, n1.keep al (p15.other hne (p13.other hne n7)), n2, by rw [al.findClass]; exact n3, n4, n5, fun y c h1 h2 => p15.other h1 (p13.other h1 (by rw [q11]; exact n6 y c h2)), by rw [p15.2.2, p13.2.2, q11]; exact z8⟩, fun fs hl => c16.trans (X15.returnOut hexec hret (hb hbytes d57) hl)⟩
end New4
namespace New1
def yN : MethodName := ⟨"java/lang/String", "<init>", "([C)V"⟩
abbrev yB : ByteArray := jdk_42_method_3_code
theorem d0 : decode yB 0 = .ok (.aload_n 0, 1) := by decide +kernel
theorem d1 : decode yB 1 = .ok (.aload_n 1, 1) := by decide +kernel
theorem d2 : decode yB 2 = .ok (.iconst 0, 1) := by decide +kernel
theorem d3 : decode yB 3 = .ok (.aload_n 1, 1) := by decide +kernel
theorem d4 : decode yB 4 = .ok (.arraylength, 1) := by decide +kernel
theorem d5 : decode yB 5 = .ok (.aconst_null, 1) := by decide +kernel
theorem d6 : decode yB 6 = .ok (.invokespecial 27, 3) := by decide +kernel
theorem d9 : decode yB 9 = .ok (.return_, 1) := by decide +kernel
def site : List Cond := [New4.tab] ++ initW "java/lang/String" 27 New4.yN
def tab : Cond := tabOf yN yB 2 none site
def P (a : Addr) (D : Cell) (fV fC : Field) (b : Addr) (A : Cell) (z : Int32) (args : Array Value) (s : State) : Prop := args = #[.ref a, .ref b] ∧ Blank "java/lang/String" a D s ∧ Found "java/lang/String" "value" "[B" fV s ∧ Found "java/lang/String" "coder" "B" fC s ∧ Ch b A s ∧ StaticIs s "java/lang/String" "COMPACT_STRINGS" "Z" (.int z) ∧ ¬ z = 0 ∧ 0 < A.slots.size ∧ A.slots.size ≤ 536870912 ∧ ∀ i, i < A.slots.size → ¬ 255 < cv A i
def E (a : Addr) (D : Cell) (fV fC : Field) (A : Cell) (r : Option Value) (s u : State) : Prop := Got a D fV fC A 0 A.slots.size r s u
/-- new String(chars), not empty, no char above 255: a Latin-1 String of their low bytes -/
theorem law (l : Launch) (a : Addr) (D : Cell) (fV fC : Field) (b : Addr) (A : Cell) (z : Int32) : Law l yN 2 1 3 52 yB 2 none site (P a D fV fC b A z) (E a D fV fC A) [⟨a, fC.slot⟩, ⟨a, fV.slot⟩] 1 A.slots.size := by
  refine Law.of_walk (plainFor_of_name (by decide +kernel)) (by decide +kernel) (by decide +kernel) (by decide) (fun _ _ h => by rw [h.1]; rfl) (fun _ U U' hal hh h => ⟨h.1, h.2.1.mv hal hh, h.2.2.1.al hal, h.2.2.2.1.al hal, h.2.2.2.2.1.mv hal hh, h.2.2.2.2.2.1.there hal hh, h.2.2.2.2.2.2⟩) (fun r U U' V V' h1 hal h2 h => Got.mv r U U' V V' h1 hal h2 h) ?_
  intro p e s m args below meth c s₁ X0 hexec hbytes hml hret hlk hnm hown hh0 W hP
  obtain ⟨rfl, hB, f1, f2, hA, s1, hz, l0, l2, hp⟩ := hP
  have c1 : Steps p.tables e below (s₁.setTop (entryFrame m #[.ref a, .ref b] 2)) (s₁.setTop (mkF m 0 #[.val (.ref a), .val (.ref b)] [])) := entry rfl
  have c2 : Steps p.tables e below (s₁.setTop (entryFrame m #[.ref a, .ref b] 2)) (s₁.setTop (mkF m 6 #[.val (.ref a), .val (.ref b)] [.null, .int (Int32.ofNat A.slots.size), .int 0, .ref b, .ref a])) := c1.trans (by
    refine XS.aloadN X0.here hexec rfl (hb hbytes d0) rfl rfl ?_
    refine XS.aloadN X0.here hexec rfl (hb hbytes d1) rfl rfl ?_
    refine iconstV X0.here hexec rfl 0 (hb hbytes d2) (by decide) ?_
    refine XS.aloadN X0.here hexec rfl (hb hbytes d3) rfl rfl ?_
    refine X0.alen hexec (hA.1.mv X0.warmed.alike hh0) rfl rfl (hb hbytes d4) ?_
    refine XS.aconstNull X0.here hexec rfl (hb hbytes d5) ?_
    exact Steps.refl _)
  obtain ⟨v3, T3, X3, E3, g3⟩ := X0.callN hexec (New4.law l a D fV fC b A z 0 A.slots.size) rfl hown (wks W (initW "java/lang/String" 27 New4.yN)) (W New4.tab (by simp only [site, List.mem_cons, List.mem_append, true_or, or_true])) (W := 0) (Nat.le_of_ble_eq_true rfl) (Nat.le_of_ble_eq_true rfl) (Nat.le_refl _) (by show 0 + A.slots.size ≤ A.slots.size; omega) (g := (mkF m 6 #[.val (.ref a), .val (.ref b)] [.null, .int (Int32.ofNat A.slots.size), .int (Int32.ofNat 0), .ref b, .ref a])) rfl (by rw [hml]; rfl) c2 (argsL := [.ref b, .int (Int32.ofNat 0), .int (Int32.ofNat A.slots.size), .null]) (rest := []) rfl rfl (by show 2 * 0 + 0 ≤ _; decide) (hb hbytes d6) (⟨rfl, hB.mv X0.warmed.alike hh0, f1.al X0.warmed.alike, f2.al X0.warmed.alike, hA.mv X0.warmed.alike hh0, s1.there X0.warmed.alike hh0, hz, l0, by omega, l2, fun i hi => by rw [Nat.zero_add]; exact hp i hi⟩)
  have e0 := Got.mv _ s₁ s _ _ hh0.symm (Vm.Alike.refl _) rfl E3
  obtain rfl := e0.1
  have c4 : Steps p.tables e below (s₁.setTop (entryFrame m #[.ref a, .ref b] 2)) (T3.setTop (mkF m 9 #[.val (.ref a), .val (.ref b)] [])) := g3
  exact ⟨T3, none, _, _, _, X3, by simp, rfl, by omega, (fun _ => rfl), e0, fun fs hl => c4.trans (X3.returnOut hexec hret (hb hbytes d9) hl)⟩
theorem pays {l : Launch} {R : Room} {p : Program} {e : Env} {below : List Frame} {s : State} {sargs : Array Value} {len W : Nat} (a : Addr) (D : Cell) (fV fC : Field) (b : Addr) (A : Cell) (z : Int32) (htab : tab.before sargs s = true) (hfr : 4 ≤ R.frames) (hlo : W + 65 ≤ R.locals) :
    Back l R p e below s sargs yN len W (fun A₁ a₁ => A₁.cells + 1 ≤ R.cells ∧ A₁.slots + A.slots.size ≤ R.slots ∧ P a D fV fC b A z a₁ A₁.U) (fun A₁ _ v₁ B₁ => E a D fV fC A v₁ A₁.U B₁.U ∧ B₁.locs = A₁.locs ++ [⟨a, fC.slot⟩, ⟨a, fV.slot⟩] ∧ B₁.cells = A₁.cells + 1 ∧ B₁.slots = A₁.slots + A.slots.size) :=
  (law l a D fV fC b A z).pays htab hfr (by omega)
end New1
/-- the byte, read back as charAt reads it, is the char -/
theorem lo8_mask {x : Int32} (h0 : ¬ x < 0) (h1 : ¬ 255 < x) : lo8 x &&& 255 = x := by
  have t : ∀ k : Fin 256, lo8 (Int32.ofNat k.val) &&& 255 = Int32.ofNat k.val := by decide +kernel
  rw [Int32.lt_iff_toInt_lt] at h0 h1
  have e0 : (0 : Int32).toInt = 0 := rfl
  have e1 : (255 : Int32).toInt = 255 := rfl
  obtain ⟨k, hk⟩ : ∃ k : Nat, x.toInt = k := ⟨x.toInt.toNat, by omega⟩
  have hx : x = Int32.ofNat k := Int32.toInt_inj.mp (by rw [hk, Int32.toInt_ofNat_small (by omega)])
  rw [hx]
  exact t ⟨k, by omega⟩
end StrChars
namespace StrChars.Road
open Jvm Sem ClassFile Op Lib Jvm.Stand Jvm.Free Jvm.Free.XT
open Jvm.Lib.Cold (StaticIs)
abbrev ST : String := "java/lang/String"
/-- every table word that New1's law asks, flat -/
abbrev words : List Jvm.Cond := [.code New1.yN New1.yB 2 none, .initialized ST, .methodLink ST 27 New4.yN, .instanceMethod New4.yN,
  .code New4.yN New4.yB 6 none, .fieldLink ST 38 ST "COMPACT_STRINGS" "Z", .laysFinal ST ST "value" "[B", .fieldLink ST 9 ST "value" "[B", .laysFinal ST ST "coder" "B", .fieldLink ST 15 ST "coder" "B",
  .methodLink ST 1 Lib.objectInit, .instanceMethod Lib.objectInit, .code Lib.objectInit ⟨#[0xb1]⟩ 1 none, .methodLink ST 177 Cmp3.yN, .static Cmp3.yN, .methodLink ST 47 CodL.yN, .static CodL.yN,
  .code Cmp3.yN Cmp3.yB 6 (some (.array .byte)), .initialized U16, .arrayClass .byte, .methodLink U16 115 Cmp5.yN, .static Cmp5.yN, .code Cmp5.yN Cmp5.yB 7 (some .int), .code CodL.yN CodL.yB 2 (some .byte)]
theorem tab_of {a : Array Value} {s : State} (h : ∀ w ∈ words, w.before a s = true) : New1.tab.before a s = true := by
  have h5 : Cmp5.tab.before a s = true := unparts (wk h (.code Cmp5.yN Cmp5.yB 7 (some .int))) (wks h (.initialized Cmp5.yN.cls :: Cmp5.site))
  have hc : CodL.tab.before a s = true := unparts (wk h (.code CodL.yN CodL.yB 2 (some .byte))) (wks h (.initialized CodL.yN.cls :: CodL.site))
  have q5 : ∀ w ∈ Cmp5.tab :: words, w.before a s = true := fun w hw => (List.mem_cons.mp hw).elim (fun e => e ▸ h5) (h w)
  have h3 : Cmp3.tab.before a s = true := unparts (wk q5 (.code Cmp3.yN Cmp3.yB 6 (some (.array .byte)))) (wks q5 (.initialized Cmp3.yN.cls :: Cmp3.site))
  have q3 : ∀ w ∈ Cmp3.tab :: CodL.tab :: words, w.before a s = true := fun w hw => (List.mem_cons.mp hw).elim (fun e => e ▸ h3) fun hw => (List.mem_cons.mp hw).elim (fun e => e ▸ hc) (h w)
  have h4 : New4.tab.before a s = true := unparts (wk q3 (.code New4.yN New4.yB 6 none)) (wks q3 (.initialized New4.yN.cls :: New4.site))
  have q4 : ∀ w ∈ New4.tab :: words, w.before a s = true := fun w hw => (List.mem_cons.mp hw).elim (fun e => e ▸ h4) (h w)
  exact unparts (wk q4 (.code New1.yN New1.yB 2 none)) (wks q4 (.initialized New1.yN.cls :: New1.site))
/-- the words ride from the start Z to the walk's own state -/
theorem moved {Z s : State} {a0 args : Array Value} (hZ : Z.Warmed39 s.vm) (hw : ∀ d ∈ words, d.before a0 Z = true) : ∀ d ∈ words, d.before args s = true := fun d hd => by
  have q := hw d hd
  have t : ∀ d ∈ words, d = .arrayClass .byte ∨ (d.onTables && d.keepsFace) = true := by decide +kernel
  rcases t d hd with rfl | t
  · exact RoadKit.mvA hZ q
  · exact RoadKit.mv hZ q t
/-- WHAT COMES BACK, over the tables of the start Z: h the heap at the call, h' behind it -/
def Q (Z : State) (x : Addr) (A : Cell) (h : Heap) (v : Option Value) (h' : Heap) (L : List Loc) : Prop := v = none ∧ (∀ y ∈ L, y.base = x) ∧ RoadKit.Keep h h' [x] ∧ h'.size = h.size + 1 ∧ RoadKit.Exa Z h' x ST ∧ RoadKit.Fld Z h' x ST "value" "[B" (.ref h.size) ∧ RoadKit.Fld Z h' x ST "coder" "B" (.int 0) ∧
  (∃ V : Cell, RoadKit.Arr Z h' h.size V .byte ∧ V.vm = .none ∧ Z.vm.findClass "[B" = some V.cls ∧ V.slots.size = A.slots.size ∧ ∀ j, j < A.slots.size → V.slots[j]? = some (.int (lo8 (cv A j)))) ∧
  ∀ (O n d : String) (w : Value), RoadKit.Fld Z h x O n d w → RoadKit.slotOf Z O n d ≠ RoadKit.slotOf Z ST "value" "[B" → RoadKit.slotOf Z O n d ≠ RoadKit.slotOf Z ST "coder" "B" → RoadKit.Fld Z h' x O n d w
/-- **new String(chars) AT A CALL, IN THE ROAD'S FORM**: for specialBack behind newO: x the fresh String, b the char[] with the cell A -/
theorem back {p : Program} {l : Launch} {e : Env} {R : Room} {s : State} {args : Array Value} {below : List Frame} {len W : Nat} {Z : State} {a0 : Array Value} {h : Heap} (hZ : Z.Warmed39 s.vm) (hw : ∀ d ∈ words, d.before a0 Z = true) {kI : Nat} (wi : (Jvm.Cond.instantiable ST kI).before a0 Z = true)
    {x b : Addr} {A : Cell} {z : Int32} {v0 c0 : Value} (E : RoadKit.Exa Z h x ST) (V : RoadKit.Fld Z h x ST "value" "[B" v0) (C : RoadKit.Fld Z h x ST "coder" "B" c0) (K : RoadKit.Arr Z h b A .char) (hty : Typed .char A) (S : RoadKit.Sta Z h ST "COMPACT_STRINGS" "Z" (.int z)) (hz : ¬ z = 0)
    (l0 : 0 < A.slots.size) (l2 : A.slots.size ≤ 536870912) (hp : ∀ i, i < A.slots.size → ¬ 255 < cv A i) (hfr : 4 ≤ R.frames) (hlo : W + 65 ≤ R.locals) :
    Back l R p e below s args New1.yN len W (fun P a => a = #[.ref x, .ref b] ∧ P.U.heap = h ∧ P.cells + 1 ≤ R.cells ∧ P.slots + A.slots.size ≤ R.slots)
      (fun P _ v B => ∃ L, Q Z x A h v B.U.heap L ∧ B.locs = P.locs ++ L ∧ B.cells = P.cells + 1 ∧ B.slots = P.slots + A.slots.size) := by
  intro m meth c P g ig mk a X hg hsize hdg hW hn hp'
  obtain ⟨rfl, rfl, r1, r2⟩ := hp'
  have al : Z.vm.Alike P.U.vm := hZ.alike.trans X.warmed.alike
  obtain ⟨D, cfV, kV, iV, fV, hD, gV, stV, knV, obV, asV, slV⟩ := id V
  obtain ⟨D', cfC, kC, iC, fC, hD', gC, stC, -, -, asC, slC⟩ := id C
  cases hD.symm.trans hD'
  obtain ⟨D2, kD, e1, e2, e3, e4, e5⟩ := id E
  cases hD.symm.trans e1
  obtain ⟨c2, k2, i1, i2, i3, -⟩ := Cond.instantiable_spec wi
  cases e2.symm.trans i1
  cases e3.symm.trans i2
  obtain ⟨kU, u1, u2⟩ := al.2.2 _ _ e3
  have hB : Blank ST x D P.U := ⟨hD, ⟨knV, fun q hq => by rw [hq] at obV; cases obV⟩, by rw [al.findClass]; exact e2, kU, u1, by rw [u2]; exact i3, by rw [u2]; exact e5 i3⟩
  have F1 : Found ST "value" "[B" fV P.U := ⟨SBG.found_only al ⟨cfV, kV, iV, gV⟩, stV⟩
  have F2 : Found ST "coder" "B" fC P.U := ⟨SBG.found_only al ⟨cfC, kC, iC, gC⟩, stC⟩
  have hA : Ch b A P.U := ⟨⟨K.1, State.isArrayOf_alike al K.2.1, K.2.2, by omega⟩, hty⟩
  have hS : StaticIs P.U ST "COMPACT_STRINGS" "Z" (.int z) := by
    obtain ⟨cfS, iS, kS, fS, st, cS, t1, t2, t3, t4, t5, t6, t7⟩ := S
    exact StaticIs.there (s := { Z with heap := P.U.heap }) ⟨cfS, iS, kS, fS, st, cS, t1, t2, t3, t4, t5, (fun q => by rw [q] at t6; cases t6), t7⟩ al rfl
  obtain ⟨v, B, X', ⟨⟨hv, E', V', q1, q2, q3, q4, q5, q6, q7, q8, q9, q10, q11⟩, hl, hc, hs⟩, st⟩ := New1.pays x D fV fC b A z (tab_of (moved hZ hw)) hfr hlo m meth c P g ig mk _ X hg hsize hdg hW hn ⟨r1, r2, rfl, hB, F1, F2, hA, hS, hz, l0, l2, hp⟩
  have al' : Z.vm.Alike B.U.vm := hZ.alike.trans X'.warmed.alike
  have hsz : E'.slots.size = D.slots.size := by
    obtain ⟨-, -, -, kB, w1, w2, w3⟩ := q1
    obtain ⟨kB', y1, y2⟩ := al'.2.2 _ _ e3
    rw [q2.2.1] at w1
    cases w1.symm.trans y1
    rw [w3, e5 i3, y2]
  refine ⟨v, B, X', ⟨_, ⟨hv, ?_, ⟨by omega, fun y cy hy hn' => q10 y cy (by simpa using hn') hy, fun y cy hy => ?_⟩, q11, ⟨E', _, q1.1, by rw [q2.2.1]; exact e2, by rw [q2.2.1]; exact e3, by rw [q2.1]; exact obV, fun _ => by rw [hsz]; exact e5 i3⟩,
    ⟨E', cfV, kV, iV, fV, q1.1, gV, stV, by rw [q2.1]; exact knV, by rw [q2.1]; exact obV, by rw [q2.2.1]; exact asV, q3⟩, ⟨E', cfC, kC, iC, fC, q1.1, gC, stC, by rw [q2.1]; exact knV, by rw [q2.1]; exact obV, by rw [q2.2.1]; exact asC, q4⟩,
    ⟨V', ⟨q5.1, State.isArrayOf_alike al'.symm q5.2.1, q5.2.2.1⟩, q6, by rw [← al'.findClass]; exact q7, q8, fun j hj => by have := q9 j hj; rwa [Nat.zero_add] at this⟩, fun O n d w F n1 n2 => ?_⟩, hl, hc, hs⟩, st⟩
  · intro y hy
    simp only [List.mem_cons, List.not_mem_nil, or_false] at hy
    rcases hy with rfl | rfl <;> rfl
  · by_cases q : y = x
    · subst q
      cases hD.symm.trans hy
      exact ⟨E', q1.1, q2.2.1, q2.1, hsz⟩
    · exact ⟨cy, q10 y cy q hy, rfl, rfl, rfl⟩
  · obtain ⟨D3, cf, k, i, f, g1, g2, g3, g4, g5, g6, g7⟩ := F
    cases hD.symm.trans g1
    simp only [RoadKit.slotOf, g2, gV, gC, Option.map_some, Option.getD_some] at n1 n2
    exact ⟨E', cf, k, i, f, q1.1, g2, g3, by rw [q2.1]; exact g4, by rw [q2.1]; exact g5, by rw [q2.2.1]; exact g6, by rw [q2.2.2 f.slot (by simp [n1, n2])]; exact g7⟩
end StrChars.Road
namespace StrChars.Road
open Jvm Sem ClassFile Op Lib Jvm.Stand Jvm.Free Jvm.Free.XT
/-- WHAT COMES BACK, the byte[] as a list of values -/
def QA (Z : State) (x : Addr) (zn : Int32) (cs : List Int32) (h : Heap) (v : Option Value) (h' : Heap) (L : List Loc) : Prop := v = none ∧ (∀ y ∈ L, y.base = x) ∧ RoadKit.Keep h h' [x] ∧ h'.size = h.size + 1 ∧ RoadKit.Exa Z h' x ST ∧ RoadKit.Fld Z h' x ST "value" "[B" (.ref h.size) ∧ RoadKit.Fld Z h' x ST "coder" "B" (.int 0) ∧
  (∃ kb, Z.vm.findClass "[B" = some kb ∧ RoadKit.Arv Z h' h.size kb .byte zn (cs.map fun c => .int (lo8 c)) (.int 0)) ∧
  ∀ (O n d : String) (w : Value), RoadKit.Fld Z h x O n d w → RoadKit.slotOf Z O n d ≠ RoadKit.slotOf Z ST "value" "[B" → RoadKit.slotOf Z O n d ≠ RoadKit.slotOf Z ST "coder" "B" → RoadKit.Fld Z h' x O n d w
/-- **new String(chars) AT A CALL, THE ARRAYS AS LISTS**: the char[] at b holds cs, not empty, no char above 255 -/
theorem backArv {p : Program} {l : Launch} {e : Env} {R : Room} {s : State} {args : Array Value} {below : List Frame} {len W : Nat} {Z : State} {a0 : Array Value} {h : Heap} (hZ : Z.Warmed39 s.vm) (hw : ∀ d ∈ words, d.before a0 Z = true) {kI : Nat} (wi : (Jvm.Cond.instantiable ST kI).before a0 Z = true)
    {x b : Addr} {k : ClassId} {zn z : Int32} {cs : List Int32} {dv v0 c0 : Value} (E : RoadKit.Exa Z h x ST) (V : RoadKit.Fld Z h x ST "value" "[B" v0) (C : RoadKit.Fld Z h x ST "coder" "B" c0) (K : RoadKit.Arv Z h b k .char zn (cs.map Value.int) dv) (S : RoadKit.Sta Z h ST "COMPACT_STRINGS" "Z" (.int z)) (hz : ¬ z = 0)
    (hlen : zn.toNatClampNeg = cs.length) (h0 : 0 < cs.length) (hbig : cs.length ≤ 536870912) (hall : ∀ c ∈ cs, ¬ 255 < c) (hfr : 4 ≤ R.frames) (hlo : W + 65 ≤ R.locals) :
    Back l R p e below s args New1.yN len W (fun P a => a = #[.ref x, .ref b] ∧ P.U.heap = h ∧ P.cells + 1 ≤ R.cells ∧ P.slots + cs.length ≤ R.slots)
      (fun P _ v B => ∃ L, QA Z x zn cs h v B.U.heap L ∧ B.locs = P.locs ++ L ∧ B.cells = P.cells + 1 ∧ B.slots = P.slots + cs.length) := by
  obtain ⟨A, K1, K2, K3, K4, K5, K6⟩ := K
  have e : A.slots.size = cs.length := K3.trans hlen
  have hat : ∀ (i : Nat) (hi : i < cs.length), A.slots[i]? = some (.int cs[i]) := fun i hi => by rw [K5 i (by omega)]; simp [List.getD_eq_getElem?_getD, hi]
  have hcv : ∀ (i : Nat) (hi : i < cs.length), cv A i = cs[i] := fun i hi => by unfold cv; rw [hat i hi]
  have hty : Typed .char A := fun i v hv => by
    have hi : i < A.slots.size := (Array.getElem?_eq_some_iff.mp hv).1
    have q := K5 i hi
    rw [hv] at q
    rw [Option.some.inj q]
    exact K6 i hi
  refine Back.mono (back hZ hw wi E V C K1 hty S hz (by omega) (by omega) (fun i hi => by rw [hcv i (by omega)]; exact hall _ (List.getElem_mem _)) hfr hlo) (fun P a hp => ⟨hp.1, hp.2.1, hp.2.2.1, by rw [e]; exact hp.2.2.2⟩) (fun P a v B hp hq => ?_)
  obtain ⟨L, ⟨q1, q2, q3, q4, q5, q6, q7, ⟨V', v1, v2, v3, v4, v5⟩, q9⟩, hl, hc, hs⟩ := hq
  refine ⟨L, ⟨q1, q2, q3, q4, q5, q6, q7, ⟨V'.cls, v3, V', v1, rfl, by rw [v4, e, hlen], K4, fun i hi => ?_, fun i hi => ?_⟩, q9⟩, hl, hc, by rw [hs, e]⟩
  · have hi' : i < cs.length := by omega
    rw [v5 i (by omega), hcv i hi']; simp [List.getD_eq_getElem?_getD, hi']
  · have hi' : i < cs.length := by omega
    simp only [List.getD_eq_getElem?_getD, List.getElem?_map, List.getElem?_eq_getElem hi', Option.map_some, Option.getD_some]
    exact fits_lo8 _
end StrChars.Road
namespace StrChars.Road
open Jvm Sem ClassFile Op Lib Jvm.Stand Jvm.Free Jvm.Free.XT
/-- WHAT COMES BACK, in the writer's own shape -/
def QV (Z : State) (x : Addr) (N : Int32) (bs : List Int32) (h : Heap) (n0 : Nat) (v : Option Value) (h' : Heap) (L : List Loc) : Prop := v = none ∧ RoadKit.Fr n0 L ∧ RoadKit.Keep h h' [x] ∧ RoadKit.Exa Z h' x ST ∧ RoadKit.Fld Z h' x ST "coder" "B" (.int 0) ∧
  ∃ (t : Addr) (kb : ClassId), n0 ≤ t ∧ h.size ≤ t ∧ ¬ t = x ∧ RoadKit.Fld Z h' x ST "value" "[B" (.ref t) ∧ RoadKit.Arv Z h' t kb .byte N (bs.map Value.int) (.int 0)
/-- **new String(chars) AT A CALL, FOR THE WRITER**: a char[] of n known ints, each 0 to 255 -/
theorem backV {p : Program} {l : Launch} {e : Env} {R : Room} {s : State} {args : Array Value} {below : List Frame} {len W : Nat} {Z : State} {a0 : Array Value} {h : Heap} (hZ : Z.Warmed39 s.vm) (hw : ∀ d ∈ words, d.before a0 Z = true) {kI : Nat} (wi : (Jvm.Cond.instantiable ST kI).before a0 Z = true)
    {x b : Addr} {kC : ClassId} {cs bs : List Int32} {d v0 c0 : Value} {z N : Int32} {n n0 : Nat} (hx0 : n0 ≤ x) (hh0 : n0 ≤ h.size) (E : RoadKit.Exa Z h x ST) (V : RoadKit.Fld Z h x ST "value" "[B" v0) (C : RoadKit.Fld Z h x ST "coder" "B" c0) (K : RoadKit.Arv Z h b kC .char N (cs.map Value.int) d) (S : RoadKit.Sta Z h ST "COMPACT_STRINGS" "Z" (.int z)) (hz : ¬ z = 0)
    (hn : cs.length = n) (hN : N = Int32.ofNat n) (l0 : 0 < n) (l2 : n ≤ 4000) (hp : ∀ c ∈ cs, ¬ c < 0 ∧ ¬ (255 : Int32) < c) (hb : bs = cs.map (fun c => c.toInt8.toInt32)) (hfr : 4 ≤ R.frames) (hlo : W + 65 ≤ R.locals) :
    Back l R p e below s args (⟨"java/lang/String", "<init>", "([C)V"⟩ : MethodName) len W (fun P a => a = #[.ref x, .ref b] ∧ P.U.heap = h ∧ P.cells + 1 ≤ R.cells ∧ P.slots + n ≤ R.slots)
      (fun P _ v B => ∃ L, QV Z x N bs h n0 v B.U.heap L ∧ B.locs = P.locs ++ L ∧ B.cells = P.cells + 1 ∧ B.slots = P.slots + n) := by
  subst hn hN hb
  refine Back.mono (backArv hZ hw wi E V C K S hz (n32 (by omega)) l0 (by omega) (fun c hc => (hp c hc).2) hfr hlo) (fun P a hp => hp) (fun P a v B hp hq => ?_)
  obtain ⟨L, ⟨q1, q2, q3, q4, q5, q6, q7, ⟨kb, v1, v2⟩, q9⟩, hl, hc, hs⟩ := hq
  exact ⟨L, ⟨q1, fun y hy => by rw [q2 y hy]; exact hx0, q3, q5, q7, h.size, kb, hh0, Nat.le_refl _, Nat.ne_of_gt E.lt, q6, by rw [List.map_map]; exact v2⟩, hl, hc, hs⟩
end StrChars.Road
namespace StrChars
open Jvm Sem ClassFile Op Lib Jvm.Stand Jvm.Free.XT Jvm.Free.ALB Jvm.Free.JM Jvm.Free
open Jvm.Lib.Cold (StaticIs)
def hi8 (x : Int32) : Int32 := lo8 (x >>> ((8 : Int32) &&& 31))
/-- what StringUTF16.getChar makes of two bytes -/
def pairCh (u v : Int32) : Int32 := (((u &&& 255) <<< ((0 : Int32) &&& 31)) ||| ((v &&& 255) <<< ((8 : Int32) &&& 31))).toUInt32.toUInt16.toUInt32.toInt32
theorem lo8_and (x : Int32) : (lo8 x &&& 255).toBitVec.toNat = x.toBitVec.toNat % 256 := by
  have h : (lo8 x).toBitVec = (x.toBitVec.signExtend 8).signExtend 32 := by rw [lo8, Int8.toBitVec_toInt32, Int32.toBitVec_toInt8]
  rw [Int32.toBitVec_and, BitVec.toNat_and, h]
  have e : ((x.toBitVec.signExtend 8).signExtend 32).toNat % 256 = x.toBitVec.toNat % 256 := by
    rw [BitVec.toNat_signExtend]
    have hlt := x.toBitVec.isLt
    simp only [BitVec.toNat_setWidth, BitVec.toNat_signExtend]
    split <;> split <;> omega
  rw [← e]
  exact Nat.and_two_pow_sub_one_eq_mod _ 8
theorem pair_says {c : Int32} (h0 : ¬ c < 0) (h1 : ¬ 65535 < c) : pairCh (lo8 c) (hi8 c) = c := by
  rw [Int32.lt_iff_toInt_lt] at h0 h1
  have e0 : (0 : Int32).toInt = 0 := rfl
  have e1 : (65535 : Int32).toInt = 65535 := rfl
  have hc : c.toInt = c.toBitVec.toNat := by
    have := c.toBitVec.isLt
    have e : c.toInt = c.toBitVec.toInt := rfl
    rw [e] at h0 h1
    rw [e]
    rw [BitVec.toInt_eq_toNat_cond] at h0 h1 ⊢
    split at h0 <;> split <;> omega
  have hn : c.toBitVec.toNat < 65536 := by omega
  have a1 := lo8_and c
  have a2 : (hi8 c &&& 255).toBitVec.toNat = c.toBitVec.toNat / 256 := by
    rw [hi8, lo8_and]
    have e : ((8 : Int32) &&& 31) = 8 := by decide
    rw [e, Int32.toBitVec_shiftRight]
    have e2 : ((8 : Int32).toBitVec.smod 32) = 8#32 := by decide
    rw [e2, BitVec.sshiftRight_eq', BitVec.toNat_sshiftRight_of_msb_false (by rw [BitVec.msb_eq_false_iff_two_mul_lt]; omega)]
    show c.toBitVec.toNat >>> 8 % 256 = _
    rw [Nat.shiftRight_eq_div_pow]
    omega
  unfold pairCh
  apply Int32.toBitVec_inj.mp
  apply BitVec.eq_of_toNat_eq
  have f0 : ((0 : Int32) &&& 31) = 0 := by decide
  have f8 : ((8 : Int32) &&& 31) = 8 := by decide
  rw [f0, f8]
  have g : (((lo8 c &&& 255) <<< (0 : Int32)) ||| ((hi8 c &&& 255) <<< (8 : Int32))).toBitVec.toNat = c.toBitVec.toNat := by
    rw [Int32.toBitVec_or, Int32.toBitVec_shiftLeft, Int32.toBitVec_shiftLeft]
    have s0 : ((0 : Int32).toBitVec.smod 32) = 0#32 := by decide
    have s8 : ((8 : Int32).toBitVec.smod 32) = 8#32 := by decide
    rw [s0, s8, BitVec.toNat_or]
    simp only [BitVec.shiftLeft_eq', BitVec.toNat_shiftLeft, a1, a2]
    show (c.toBitVec.toNat % 256) <<< 0 % 2 ^ 32 ||| (c.toBitVec.toNat / 256) <<< 8 % 2 ^ 32 = _
    rw [Nat.shiftLeft_zero, Nat.mod_eq_of_lt (show c.toBitVec.toNat % 256 < 2 ^ 32 by omega), Nat.mod_eq_of_lt (show (c.toBitVec.toNat / 256) <<< 8 < 2 ^ 32 by rw [Nat.shiftLeft_eq]; omega), Nat.or_comm, ← Nat.shiftLeft_add_eq_or_of_lt (by omega), Nat.shiftLeft_eq]
    omega
  show BitVec.toNat (((((lo8 c &&& 255) <<< (0 : Int32)) ||| ((hi8 c &&& 255) <<< (8 : Int32))).toBitVec.setWidth 16).setWidth 32) = _
  rw [BitVec.toNat_setWidth, BitVec.toNat_setWidth, g]
  omega
end StrChars
namespace StrChars
open Jvm Sem ClassFile Op Lib Jvm.Stand Jvm.Free.XT Jvm.Free.ALB Jvm.Free.JM Jvm.Free
open Jvm.Lib.Cold (StaticIs)
/-- the array's cell V codes the n chars f 0 .. f (n - 1) by the coder cd, as the JDK does: coder 1 just where some char is above 255 -/
def Cod (cd : Int32) (n : Nat) (f : Nat → Int32) (V : Cell) : Prop := (cd = 0 ∧ V.slots.size = n ∧ ∀ j, j < n → V.slots[j]? = some (.int (lo8 (f j))) ∧ ¬ 255 < f j) ∨ (cd = 1 ∧ V.slots.size = 2 * n ∧ (∀ j, j < n → V.slots[2 * j]? = some (.int (lo8 (f j))) ∧ V.slots[2 * j + 1]? = some (.int (hi8 (f j)))) ∧ ∃ j, j < n ∧ 255 < f j)
/-- **x is a String of the n chars f 0 .. f (n - 1)**, Latin-1 or UTF-16; its array at t has the cell V -/
def Txt (x t : Addr) (V : Cell) (cd : Int32) (n : Nat) (f : Nat → Int32) (U : State) : Prop := Exact "java/lang/String" x U ∧ Has x "java/lang/String" "value" "[B" (.ref t) U ∧ Has x "java/lang/String" "coder" "B" (.int cd) U ∧ XT.Arr .byte t V U ∧ Cod cd n f V ∧ ∀ j, j < n → ¬ f j < 0 ∧ ¬ 65535 < f j
theorem Txt.mv {x t : Addr} {V : Cell} {cd : Int32} {n : Nat} {f : Nat → Int32} {U U' : State} (h : Txt x t V cd n f U) (hal : U.vm.Alike U'.vm) (hh : U'.heap = U.heap) : Txt x t V cd n f U' := ⟨h.1.mv hal hh, h.2.1.mv hal hh, h.2.2.1.mv hal hh, h.2.2.2.1.mv hal hh, h.2.2.2.2⟩
end StrChars
namespace StrChars.Road
open Jvm Sem ClassFile Op Lib Jvm.Stand Jvm.Free Jvm.Free.XT
open Jvm.Lib.Cold (StaticIs)
theorem consq {a : Array Value} {s : State} {c : Jvm.Cond} {L : List Jvm.Cond} (h0 : c.before a s = true) (h : ∀ w ∈ L, w.before a s = true) : ∀ w ∈ c :: L, w.before a s = true := fun w hw => (List.mem_cons.mp hw).elim (fun e => e ▸ h0) (h w)
/-- the bytes of the chars cs, low before high -/
def wideBytes : List Int32 → List Value
  | [] => []
  | c :: cs => .int (lo8 c) :: .int (hi8 c) :: wideBytes cs
theorem wide_lo (d : Value) : ∀ (cs : List Int32) (j : Nat), j < cs.length → (wideBytes cs).getD (2 * j) d = .int (lo8 (cs.getD j 0))
  | [], j, h => absurd h (Nat.not_lt_zero j)
  | c :: cs, 0, _ => rfl
  | c :: cs, j + 1, h => by
    have q := wide_lo d cs j (by simpa using h)
    rw [show 2 * (j + 1) = 2 * j + 1 + 1 from by omega]
    simpa [wideBytes] using q
theorem wide_hi (d : Value) : ∀ (cs : List Int32) (j : Nat), j < cs.length → (wideBytes cs).getD (2 * j + 1) d = .int (hi8 (cs.getD j 0))
  | [], j, h => absurd h (Nat.not_lt_zero j)
  | c :: cs, 0, _ => rfl
  | c :: cs, j + 1, h => by
    have q := wide_hi d cs j (by simpa using h)
    rw [show 2 * (j + 1) + 1 = 2 * j + 1 + 1 + 1 from by omega]
    simpa [wideBytes] using q
theorem low_at (d : Value) (cs : List Int32) (j : Nat) (h : j < cs.length) : (cs.map fun c => Value.int (lo8 c)).getD j d = .int (lo8 (cs.getD j 0)) := by
  simp [List.getD_eq_getElem?_getD, h]
/-- an array of N2 bytes vs codes the chars cs by the coder cd -/
def CodA (cs : List Int32) (cd N2 : Int32) (vs : List Value) : Prop := (cd = 0 ∧ N2 = Int32.ofNat cs.length ∧ vs = (cs.map fun c => Value.int (lo8 c)) ∧ ∀ c ∈ cs, ¬ 255 < c) ∨ (cd = 1 ∧ N2 = Int32.ofNat (2 * cs.length) ∧ vs = wideBytes cs ∧ ∃ c ∈ cs, 255 < c)
theorem CodA.cod {cs : List Int32} {cd N2 : Int32} {vs : List Value} {V : Cell} (h : CodA cs cd N2 vs) (hn : 2 * cs.length < 2 ^ 31) (hs : V.slots.size = N2.toNatClampNeg) (hv : RoadKit.Has V vs (.int 0)) : Cod cd cs.length (fun j => cs.getD j 0) V := by
  rcases h with ⟨rfl, rfl, rfl, h⟩ | ⟨rfl, rfl, rfl, c, hc, hw⟩
  · rw [n32 (by omega)] at hs
    exact Or.inl ⟨rfl, hs, fun j hj => ⟨by rw [hv j (by omega), low_at _ _ _ hj], by
      have e : cs.getD j 0 = cs[j] := by simp [List.getD_eq_getElem?_getD, hj]
      show ¬ 255 < cs.getD j 0
      rw [e]; exact h _ (List.getElem_mem _)⟩⟩
  · rw [n32 (by omega)] at hs
    obtain ⟨j, hj, rfl⟩ := List.getElem_of_mem hc
    exact Or.inr ⟨rfl, hs, fun j hj => ⟨by rw [hv _ (by omega), wide_lo _ _ _ hj], by rw [hv _ (by omega), wide_hi _ _ _ hj]⟩, j, hj, by
      have e : cs.getD j 0 = cs[j] := by simp [List.getD_eq_getElem?_getD, hj]
      show 255 < cs.getD j 0
      rw [e]; exact hw⟩
/-- an object of exactly java/lang/String, its two fields found: as the laws ask it -/
theorem strObj {Z U : State} {a0 : Array Value} {kI : Nat} (wi : (Jvm.Cond.instantiable ST kI).before a0 Z = true) (al : Z.vm.Alike U.vm) {x : Addr} {v0 c0 : Value} (E : RoadKit.Exa Z U.heap x ST) (V : RoadKit.Fld Z U.heap x ST "value" "[B" v0) (C : RoadKit.Fld Z U.heap x ST "coder" "B" c0) :
    ∃ (D : Cell) (fV fC : Field), Blank ST x D U ∧ Found ST "value" "[B" fV U ∧ Found ST "coder" "B" fC U ∧ D.slots[fV.slot]? = some v0 ∧ D.slots[fC.slot]? = some c0 ∧ RoadKit.slotOf Z ST "value" "[B" = fV.slot ∧ RoadKit.slotOf Z ST "coder" "B" = fC.slot := by
  obtain ⟨D, cfV, kV, iV, fV, hD, gV, stV, knV, obV, asV, slV⟩ := V
  obtain ⟨D', cfC, kC, iC, fC, hD', gC, stC, -, -, asC, slC⟩ := C
  cases hD.symm.trans hD'
  obtain ⟨D2, kD, e1, e2, e3, e4, e5⟩ := E
  cases hD.symm.trans e1
  obtain ⟨c2, k2, i1, i2, i3, -⟩ := Cond.instantiable_spec wi
  cases e2.symm.trans i1
  cases e3.symm.trans i2
  obtain ⟨kU, u1, u2⟩ := al.2.2 _ _ e3
  exact ⟨D, fV, fC, ⟨hD, ⟨knV, fun q hq => by rw [hq] at obV; cases obV⟩, by rw [al.findClass]; exact e2, kU, u1, by rw [u2]; exact i3, by rw [u2]; exact e5 i3⟩, ⟨SBG.found_only al ⟨cfV, kV, iV, gV⟩, stV⟩, ⟨SBG.found_only al ⟨cfC, kC, iC, gC⟩, stC⟩, slV, slC, by simp [RoadKit.slotOf, gV], by simp [RoadKit.slotOf, gC]⟩
theorem sta_is {Z U : State} (al : Z.vm.Alike U.vm) {C n d : String} {v : Value} (S : RoadKit.Sta Z U.heap C n d v) : StaticIs U C n d v := by
  obtain ⟨cfS, iS, kS, fS, st, cS, t1, t2, t3, t4, t5, t6, t7⟩ := S
  exact StaticIs.there (s := { Z with heap := U.heap }) ⟨cfS, iS, kS, fS, st, cS, t1, t2, t3, t4, t5, (fun q => by rw [q] at t6; cases t6), t7⟩ al rfl
end StrChars.Road
namespace StrChars
open Jvm Sem ClassFile Op Lib Jvm.Stand Jvm.Free.XT Jvm.Free.ALB Jvm.Free.JM Jvm.Free
open Jvm.Lib.Cold (StaticIs)
/-- what place i of a byte[]'s cell holds -/
def yv (A : Cell) (i : Nat) : Int32 := match A.slots[i]? with | some (.int x) => x | _ => 0
theorem yv_get {a : Addr} {A : Cell} {U : State} (h : XT.Arr .byte a A U) (ht : Typed .byte A) {i : Nat} (hi : i < A.slots.size) : A.slots[i]? = some (.int (yv A i)) := by
  have e := Array.getElem?_eq_getElem hi
  have f := ht i _ e
  unfold yv; rw [e]
  generalize A.slots[i] = v at f
  cases v <;> simp [fits] at f ⊢
/-- the two arrays are equal, place for place -/
def EqC (A B : Cell) : Prop := A.slots.size = B.slots.size ∧ ∀ i, i < A.slots.size → yv A i = yv B i
/-- a boolean that says whether p -/
def Says01 (q : Prop) (r : Option Value) (s u : State) : Prop := ∃ v : Int32, r = some (.int v) ∧ u.heap = s.heap ∧ ((v = 1 ∧ q) ∨ (v = 0 ∧ ¬ q))
theorem Says01.mv {q : Prop} : ∀ r (U U' V V' : State), U'.heap = U.heap → V.vm.Alike V'.vm → V'.heap = V.heap → Says01 q r U V → Says01 q r U' V' :=
  fun r U U' V V' h1 _ h2 ⟨v, a, b, c⟩ => ⟨v, a, by rw [h1, h2]; exact b, c⟩
namespace LEq
def yN : MethodName := ⟨"java/lang/StringLatin1", "equals", "([B[B)Z"⟩
abbrev yB : ByteArray := jdk_43_method_13_code
theorem d0 : decode yB 0 = .ok (.aload_n 0, 1) := by decide +kernel
theorem d1 : decode yB 1 = .ok (.arraylength, 1) := by decide +kernel
theorem d2 : decode yB 2 = .ok (.aload_n 1, 1) := by decide +kernel
theorem d3 : decode yB 3 = .ok (.arraylength, 1) := by decide +kernel
theorem d4 : decode yB 4 = .ok (.if_icmp (.ne) 30, 3) := by decide +kernel
theorem d7 : decode yB 7 = .ok (.iconst 0, 1) := by decide +kernel
theorem d8 : decode yB 8 = .ok (.istore_n 2, 1) := by decide +kernel
theorem d9 : decode yB 9 = .ok (.iload_n 2, 1) := by decide +kernel
theorem d10 : decode yB 10 = .ok (.aload_n 0, 1) := by decide +kernel
theorem d11 : decode yB 11 = .ok (.arraylength, 1) := by decide +kernel
theorem d12 : decode yB 12 = .ok (.if_icmp (.ge) 20, 3) := by decide +kernel
theorem d15 : decode yB 15 = .ok (.aload_n 0, 1) := by decide +kernel
theorem d16 : decode yB 16 = .ok (.iload_n 2, 1) := by decide +kernel
theorem d17 : decode yB 17 = .ok (.baload, 1) := by decide +kernel
theorem d18 : decode yB 18 = .ok (.aload_n 1, 1) := by decide +kernel
theorem d19 : decode yB 19 = .ok (.iload_n 2, 1) := by decide +kernel
theorem d20 : decode yB 20 = .ok (.baload, 1) := by decide +kernel
theorem d21 : decode yB 21 = .ok (.if_icmp (.eq) 5, 3) := by decide +kernel
theorem d24 : decode yB 24 = .ok (.iconst 0, 1) := by decide +kernel
theorem d25 : decode yB 25 = .ok (.ireturn, 1) := by decide +kernel
theorem d26 : decode yB 26 = .ok (.iinc 2 1, 3) := by decide +kernel
theorem d29 : decode yB 29 = .ok (.goto (-20), 3) := by decide +kernel
theorem d32 : decode yB 32 = .ok (.iconst 1, 1) := by decide +kernel
theorem d33 : decode yB 33 = .ok (.ireturn, 1) := by decide +kernel
theorem d34 : decode yB 34 = .ok (.iconst 0, 1) := by decide +kernel
theorem d35 : decode yB 35 = .ok (.ireturn, 1) := by decide +kernel
def site : List Cond := []
def tab : Cond := tabOf yN yB 3 (some .boolean) site
def P (a : Addr) (A : Cell) (b : Addr) (B : Cell) (args : Array Value) (s : State) : Prop := args = #[.ref a, .ref b] ∧ XT.Arr .byte a A s ∧ Typed .byte A ∧ XT.Arr .byte b B s ∧ Typed .byte B
/-- whether two byte[] are equal, place for place -/
theorem law (l : Launch) (a : Addr) (A : Cell) (b : Addr) (B : Cell) : Law l yN 2 2 0 0 yB 3 (some .boolean) site (P a A b B) (Says01 (EqC A B)) [] 0 0 := by
  refine Law.of_walk (plainFor_of_name (by decide +kernel)) (by decide +kernel) (by decide +kernel) (by decide) (fun _ _ h => by rw [h.1]; rfl) (fun _ U U' hal hh h => ⟨h.1, h.2.1.mv hal hh, h.2.2.1, h.2.2.2.1.mv hal hh, h.2.2.2.2⟩) (fun r U U' V V' h1 hal h2 h => Says01.mv r U U' V V' h1 hal h2 h) ?_
  intro p e s m args below meth c s₁ X0 hexec hbytes hml hret hlk hnm hown hh0 W hP
  obtain ⟨rfl, hA, tA, hB, tB⟩ := hP
  have a31 := hA.2.2.2
  have b31 := hB.2.2.2
  have hA0 := hA.mv X0.warmed.alike hh0
  have hB0 := hB.mv X0.warmed.alike hh0
  have c1 : Steps p.tables e below (s₁.setTop (entryFrame m #[.ref a, .ref b] 3)) (s₁.setTop (mkF m 0 #[.val (.ref a), .val (.ref b), .unset] [])) := entry rfl
  have c2 : Steps p.tables e below (s₁.setTop (entryFrame m #[.ref a, .ref b] 3)) (s₁.setTop (mkF m 4 #[.val (.ref a), .val (.ref b), .unset] [.int (Int32.ofNat B.slots.size), .int (Int32.ofNat A.slots.size)])) := c1.trans (by
    refine XS.aloadN X0.here hexec rfl (hb hbytes d0) rfl rfl ?_
    refine X0.alen hexec hA0 rfl rfl (hb hbytes d1) ?_
    refine XS.aloadN X0.here hexec rfl (hb hbytes d2) rfl rfl ?_
    refine X0.alen hexec hB0 rfl rfl (hb hbytes d3) ?_
    exact Steps.refl _)
  by_cases hs : A.slots.size = B.slots.size
  · have c3 : Steps p.tables e below (s₁.setTop (entryFrame m #[.ref a, .ref b] 3)) (s₁.setTop (mkF m 9 #[.val (.ref a), .val (.ref b), .val (.int 0)] [])) := c2.trans (by
      refine XS.icmpNo X0.here hexec rfl (hb hbytes d4) rfl (ii_ne_f (by rw [hs])) ?_
      refine iconstV X0.here hexec rfl 0 (hb hbytes d7) (by decide) ?_
      refine XS.istoreN X0.here hexec rfl (hb hbytes d8) rfl rfl ?_
      exact Steps.refl _)
    have loop : ∀ (r i : Nat), i + r = A.slots.size → (∀ j, j < i → yv A j = yv B j) → Steps p.tables e below (s₁.setTop (entryFrame m #[.ref a, .ref b] 3)) (s₁.setTop (mkF m 9 #[.val (.ref a), .val (.ref b), .val (.int (Int32.ofNat i))] [])) → ∃ (pc : Nat) (Ls : Array Slot) (v : Int32), (pc = 25 ∨ pc = 33) ∧ ((v = 1 ∧ EqC A B) ∨ (v = 0 ∧ ¬ EqC A B)) ∧ Steps p.tables e below (s₁.setTop (entryFrame m #[.ref a, .ref b] 3)) (s₁.setTop (mkF m pc Ls [.int v])) := by
      intro r
      induction r with
      | zero =>
        intro i hi he cl
        exact ⟨33, _, 1, Or.inr rfl, Or.inl ⟨rfl, hs, fun j hj => he j (by omega)⟩, cl.trans (by
          refine XS.iloadN X0.here hexec rfl (hb hbytes d9) rfl ?_
          refine XS.aloadN X0.here hexec rfl (hb hbytes d10) rfl rfl ?_
          refine X0.alen hexec hA0 rfl rfl (hb hbytes d11) ?_
          refine XS.icmpYes X0.here hexec rfl (pc0 := 12) rfl (hb hbytes d12) rfl (ii_ge_t (nlt32 (by omega) (by omega))) (by decide) rfl ?_
          refine iconstV X0.here hexec rfl 1 (hb hbytes d32) (by decide) ?_
          exact Steps.refl _)⟩
      | succ r ih =>
        intro i hi he cl
        have c4 : Steps p.tables e below (s₁.setTop (entryFrame m #[.ref a, .ref b] 3)) (s₁.setTop (mkF m 21 #[.val (.ref a), .val (.ref b), .val (.int (Int32.ofNat i))] [.int (yv B i), .int (yv A i)])) := cl.trans (by
          refine XS.iloadN X0.here hexec rfl (hb hbytes d9) rfl ?_
          refine XS.aloadN X0.here hexec rfl (hb hbytes d10) rfl rfl ?_
          refine X0.alen hexec hA0 rfl rfl (hb hbytes d11) ?_
          refine XS.icmpNo X0.here hexec rfl (hb hbytes d12) rfl (ii_ge_f (lt32 (by omega) (by omega))) ?_
          refine XS.aloadN X0.here hexec rfl (hb hbytes d15) rfl rfl ?_
          refine XS.iloadN X0.here hexec rfl (hb hbytes d16) rfl ?_
          refine X0.aget hexec hA0 rfl (yv_get hA tA (i := i) (by omega)) rfl rfl (hb hbytes d17) ?_
          refine XS.aloadN X0.here hexec rfl (hb hbytes d18) rfl rfl ?_
          refine XS.iloadN X0.here hexec rfl (hb hbytes d19) rfl ?_
          refine X0.aget hexec hB0 rfl (yv_get hB tB (i := i) (by omega)) rfl rfl (hb hbytes d20) ?_
          exact Steps.refl _)
        by_cases hv : yv A i = yv B i
        · have c5 : Steps p.tables e below (s₁.setTop (entryFrame m #[.ref a, .ref b] 3)) (s₁.setTop (mkF m 9 #[.val (.ref a), .val (.ref b), .val (.int (Int32.ofNat i + 1))] [])) := c4.trans (by
            refine XS.icmpYes X0.here hexec rfl (pc0 := 21) rfl (hb hbytes d21) rfl (ii_eq_t hv) (by decide) rfl ?_
            refine iincV X0.here hexec rfl 1 (hb hbytes d26) (by decide) rfl rfl ?_
            refine XS.goto X0.here hexec rfl (pc0 := 29) rfl (hb hbytes d29) (by decide) rfl ?_
            exact Steps.refl _)
          rw [succ32] at c5
          exact ih (i + 1) (by omega) (fun j hj => by
            by_cases e : j = i
            · rw [e]; exact hv
            · exact he j (by omega)) c5
        · exact ⟨25, _, 0, Or.inl rfl, Or.inr ⟨rfl, fun q => hv (q.2 i (by omega))⟩, c4.trans (by
            refine XS.icmpNo X0.here hexec rfl (hb hbytes d21) rfl (ii_eq_f hv) ?_
            refine iconstV X0.here hexec rfl 0 (hb hbytes d24) (by decide) ?_
            exact Steps.refl _)⟩
    obtain ⟨pc, Ls, v, hpc, hv, cz⟩ := loop A.slots.size 0 (by omega) (fun j hj => absurd hj (Nat.not_lt_zero j)) c3
    have nv : narrow .boolean (.int v) = .int v := by rcases hv with ⟨rfl, -⟩ | ⟨rfl, -⟩ <;> rfl
    rcases hpc with rfl | rfl
    · exact ⟨s₁, some (.int v), _, _, _, X0, rfl, rfl, rfl, (fun h => by cases h), ⟨v, rfl, hh0, hv⟩, fun fs hl => cz.trans (X0.ireturnOut hexec hret nv (Or.inr (Or.inl rfl)) (hb hbytes d25) hl)⟩
    · exact ⟨s₁, some (.int v), _, _, _, X0, rfl, rfl, rfl, (fun h => by cases h), ⟨v, rfl, hh0, hv⟩, fun fs hl => cz.trans (X0.ireturnOut hexec hret nv (Or.inr (Or.inl rfl)) (hb hbytes d33) hl)⟩
  · have c3 : Steps p.tables e below (s₁.setTop (entryFrame m #[.ref a, .ref b] 3)) (s₁.setTop (mkF m 35 #[.val (.ref a), .val (.ref b), .unset] [.int 0])) := c2.trans (by
      refine XS.icmpYes X0.here hexec rfl (pc0 := 4) rfl (hb hbytes d4) rfl (ii_ne_t (ne32 a31 b31 hs)) (by decide) rfl ?_
      refine iconstV X0.here hexec rfl 0 (hb hbytes d34) (by decide) ?_
      exact Steps.refl _)
    exact ⟨s₁, some (.int 0), _, _, _, X0, rfl, rfl, rfl, (fun h => by cases h), ⟨0, rfl, hh0, Or.inr ⟨rfl, fun q => hs q.1⟩⟩, fun fs hl => c3.trans (X0.ireturnOut hexec hret rfl (Or.inr (Or.inl rfl)) (hb hbytes d35) hl)⟩
end LEq
theorem Cod.ty {cd : Int32} {n : Nat} {f : Nat → Int32} {V : Cell} (h : Cod cd n f V) : Typed .byte V := fun i v hv => by
  have hi : i < V.slots.size := (Array.getElem?_eq_some_iff.mp hv).1
  rcases h with ⟨-, k1, k2⟩ | ⟨-, k1, k2, -⟩
  · rw [(k2 i (by omega)).1] at hv; cases hv; exact fits_lo8 _
  · rcases Nat.mod_two_eq_zero_or_one i with e | e
    · obtain ⟨j, rfl⟩ : ∃ j, i = 2 * j := ⟨i / 2, by omega⟩
      rw [(k2 j (by omega)).1] at hv; cases hv; exact fits_lo8 _
    · obtain ⟨j, rfl⟩ : ∃ j, i = 2 * j + 1 := ⟨i / 2, by omega⟩
      rw [(k2 j (by omega)).2] at hv; cases hv; exact fits_lo8 _
/-- the same text -/
def SameT (n : Nat) (f : Nat → Int32) (k : Nat) (g : Nat → Int32) : Prop := n = k ∧ ∀ j, j < n → f j = g j
theorem lo8_inj {x y : Int32} (h0 : ¬ x < 0) (h1 : ¬ 255 < x) (k0 : ¬ y < 0) (k1 : ¬ 255 < y) (h : lo8 x = lo8 y) : x = y := by
  rw [← lo8_mask h0 h1, ← lo8_mask k0 k1, h]
/-- arrays coded by one coder are equal just where the texts are -/
theorem Cod.eqv {cd : Int32} {n k : Nat} {f g : Nat → Int32} {V V' : Cell} (h : Cod cd n f V) (h' : Cod cd k g V') (hf : ∀ j, j < n → ¬ f j < 0 ∧ ¬ 65535 < f j) (hg : ∀ j, j < k → ¬ g j < 0 ∧ ¬ 65535 < g j) : EqC V V' ↔ SameT n f k g := by
  have yvv : ∀ {W : Cell} {i : Nat} {x : Int32}, W.slots[i]? = some (.int x) → yv W i = x := fun q => by unfold yv; rw [q]
  rcases h with ⟨rfl, k1, k2⟩ | ⟨rfl, k1, k2, -⟩
  · rcases h' with ⟨-, m1, m2⟩ | ⟨e, -⟩
    · constructor
      · rintro ⟨e1, e2⟩
        refine ⟨by omega, fun j hj => ?_⟩
        have q := e2 j (by omega)
        rw [yvv (k2 j hj).1, yvv (m2 j (by omega)).1] at q
        exact lo8_inj (hf j hj).1 (k2 j hj).2 (hg j (by omega)).1 (m2 j (by omega)).2 q
      · rintro ⟨rfl, e2⟩
        refine ⟨by omega, fun j hj => ?_⟩
        rw [yvv (k2 j (by omega)).1, yvv (m2 j (by omega)).1, e2 j (by omega)]
    · exact absurd e (by decide)
  · rcases h' with ⟨e, -⟩ | ⟨-, m1, m2, -⟩
    · exact absurd e (by decide)
    · constructor
      · rintro ⟨e1, e2⟩
        refine ⟨by omega, fun j hj => ?_⟩
        have q1 := e2 (2 * j) (by omega)
        have q2 := e2 (2 * j + 1) (by omega)
        rw [yvv (k2 j hj).1, yvv (m2 j (by omega)).1] at q1
        rw [yvv (k2 j hj).2, yvv (m2 j (by omega)).2] at q2
        rw [← pair_says (hf j hj).1 (hf j hj).2, ← pair_says (hg j (by omega)).1 (hg j (by omega)).2, q1, q2]
      · rintro ⟨rfl, e2⟩
        refine ⟨by omega, fun i hi => ?_⟩
        rcases Nat.mod_two_eq_zero_or_one i with e | e
        · obtain ⟨j, rfl⟩ : ∃ j, i = 2 * j := ⟨i / 2, by omega⟩
          rw [yvv (k2 j (by omega)).1, yvv (m2 j (by omega)).1, e2 j (by omega)]
        · obtain ⟨j, rfl⟩ : ∃ j, i = 2 * j + 1 := ⟨i / 2, by omega⟩
          rw [yvv (k2 j (by omega)).2, yvv (m2 j (by omega)).2, e2 j (by omega)]
/-- two codings differ: so do the texts -/
theorem Cod.dif {cd cd' : Int32} {n k : Nat} {f g : Nat → Int32} {V V' : Cell} (h : Cod cd n f V) (h' : Cod cd' k g V') (hne : ¬ cd = cd') : ¬ SameT n f k g := by
  rintro ⟨rfl, e⟩
  rcases h with ⟨rfl, -, k2⟩ | ⟨rfl, -, -, j, hj, hw⟩
  · rcases h' with ⟨rfl, -⟩ | ⟨-, -, -, j, hj, hw⟩
    · exact hne rfl
    · exact (k2 j hj).2 (by rw [e j hj]; exact hw)
  · rcases h' with ⟨-, -, m2⟩ | ⟨rfl, -⟩
    · exact (m2 j hj).2 (by rw [← e j hj]; exact hw)
    · exact hne rfl
/-- an object of exactly C is an instance of C -/
theorem cinst {p : Program} {l : Launch} {e : Env} {R : Room} {s : State} {m : MethodId} {args : Array Value} {below : List Frame} {meth : Method} {c : Code} {T : State} {locs : List Loc} {cells slots : Nat} (X : Stand p l e R s m args below meth c T locs cells slots) (hexec : p.tables.exec = Jvm.exec) {own C : String} {index : Nat} (hown : s.vm.findClass own = some m.cls) (hlink : (Cond.classLink own index C).before args s = true) {a : Addr} (hE : Exact C a T)
    {g : JFrame} (hg : g.method = m) {rest : List Value} (hstack : g.stack = .ref a :: rest) (hdg : decode c.code g.pc = .ok (.instanceof index, 3)) :
    ∃ T', Stand p l e R s m args below meth c T' locs cells slots ∧ T'.heap = T.heap ∧ ∀ target, Steps p.tables e below (T'.setTop { g with pc := g.pc + 3, stack := .int 1 :: rest }) target → Steps p.tables e below (T.setTop g) target := by
  obtain ⟨cB, h1, D, h2, h3, h4⟩ := hE
  have h1' : s.vm.findClass C = some cB := by rw [← X.warmed.alike.findClass]; exact h1
  obtain ⟨vm', X', st⟩ := X.instanceofYes hexec hown hlink h2 h4 h1' (by rw [h3]; exact Jvm.Free.SB.assignable_self _ _) hg hstack hdg
  exact ⟨_, X', rfl, st⟩
theorem cself {p : Program} {l : Launch} {e : Env} {R : Room} {s : State} {m : MethodId} {args : Array Value} {below : List Frame} {meth : Method} {c : Code} {T : State} {locs : List Loc} {cells slots : Nat} (X : Stand p l e R s m args below meth c T locs cells slots) (hexec : p.tables.exec = Jvm.exec) {own C : String} {index : Nat} (hown : s.vm.findClass own = some m.cls) (hlink : (Cond.classLink own index C).before args s = true) {a : Addr} (hE : Exact C a T)
    {g : JFrame} (hg : g.method = m) {rest : List Value} (hstack : g.stack = .ref a :: rest) (hdg : decode c.code g.pc = .ok (.checkcast index, 3)) :
    ∃ T', Stand p l e R s m args below meth c T' locs cells slots ∧ T'.heap = T.heap ∧ ∀ target, Steps p.tables e below (T'.setTop { g with pc := g.pc + 3, stack := .ref a :: rest }) target → Steps p.tables e below (T.setTop g) target := by
  obtain ⟨cB, h1, D, h2, h3, h4⟩ := hE
  have h1' : s.vm.findClass C = some cB := by rw [← X.warmed.alike.findClass]; exact h1
  obtain ⟨vm', X', st⟩ := X.checkcastYes hexec hown hlink h2 h4 h1' (by rw [h3]; exact Jvm.Free.SB.assignable_self _ _) hg hstack hdg
  exact ⟨_, X', rfl, fun t h => st t (by rw [← hstack] at h; exact h)⟩
namespace SEq
def yN : MethodName := ⟨"java/lang/String", "equals", "(Ljava/lang/Object;)Z"⟩
abbrev yB : ByteArray := jdk_42_method_66_code
theorem d0 : decode yB 0 = .ok (.aload_n 0, 1) := by decide +kernel
theorem d1 : decode yB 1 = .ok (.aload_n 1, 1) := by decide +kernel
theorem d2 : decode yB 2 = .ok (.if_acmp (.ne) 5, 3) := by decide +kernel
theorem d5 : decode yB 5 = .ok (.iconst 1, 1) := by decide +kernel
theorem d6 : decode yB 6 = .ok (.ireturn, 1) := by decide +kernel
theorem d7 : decode yB 7 = .ok (.aload_n 1, 1) := by decide +kernel
theorem d8 : decode yB 8 = .ok (.instanceof 10, 3) := by decide +kernel
theorem d11 : decode yB 11 = .ok (.ifCond (.eq) 43, 3) := by decide +kernel
theorem d14 : decode yB 14 = .ok (.aload_n 1, 1) := by decide +kernel
theorem d15 : decode yB 15 = .ok (.checkcast 10, 3) := by decide +kernel
theorem d18 : decode yB 18 = .ok (.astore_n 2, 1) := by decide +kernel
theorem d19 : decode yB 19 = .ok (.getstatic 38, 3) := by decide +kernel
theorem d22 : decode yB 22 = .ok (.ifCond (.eq) 14, 3) := by decide +kernel
theorem d25 : decode yB 25 = .ok (.aload_n 0, 1) := by decide +kernel
theorem d26 : decode yB 26 = .ok (.getfield 15, 3) := by decide +kernel
theorem d29 : decode yB 29 = .ok (.aload_n 2, 1) := by decide +kernel
theorem d30 : decode yB 30 = .ok (.getfield 15, 3) := by decide +kernel
theorem d33 : decode yB 33 = .ok (.if_icmp (.ne) 21, 3) := by decide +kernel
theorem d36 : decode yB 36 = .ok (.aload_n 0, 1) := by decide +kernel
theorem d37 : decode yB 37 = .ok (.getfield 9, 3) := by decide +kernel
theorem d40 : decode yB 40 = .ok (.aload_n 2, 1) := by decide +kernel
theorem d41 : decode yB 41 = .ok (.getfield 9, 3) := by decide +kernel
theorem d44 : decode yB 44 = .ok (.invokestatic 541, 3) := by decide +kernel
theorem d47 : decode yB 47 = .ok (.ifCond (.eq) 7, 3) := by decide +kernel
theorem d50 : decode yB 50 = .ok (.iconst 1, 1) := by decide +kernel
theorem d51 : decode yB 51 = .ok (.goto 4, 3) := by decide +kernel
theorem d54 : decode yB 54 = .ok (.iconst 0, 1) := by decide +kernel
theorem d55 : decode yB 55 = .ok (.ireturn, 1) := by decide +kernel
def site : List Cond := [.classLink "java/lang/String" 10 "java/lang/String", .fieldLink "java/lang/String" 38 "java/lang/String" "COMPACT_STRINGS" "Z", .fieldLink "java/lang/String" 15 "java/lang/String" "coder" "B", .fieldLink "java/lang/String" 9 "java/lang/String" "value" "[B", LEq.tab] ++ staticW "java/lang/String" 541 LEq.yN
def tab : Cond := tabOf yN yB 3 (some .boolean) site
def P (x t : Addr) (V : Cell) (cd : Int32) (n : Nat) (f : Nat → Int32) (y t' : Addr) (V' : Cell) (cd' : Int32) (k : Nat) (g : Nat → Int32) (z : Int32) (args : Array Value) (s : State) : Prop := args = #[.ref x, .ref y] ∧ Txt x t V cd n f s ∧ Txt y t' V' cd' k g s ∧ StaticIs s "java/lang/String" "COMPACT_STRINGS" "Z" (.int z) ∧ ¬ z = 0
/-- equals(Object) of two Strings: whether the texts are the same -/
theorem law (l : Launch) (x t : Addr) (V : Cell) (cd : Int32) (n : Nat) (f : Nat → Int32) (y t' : Addr) (V' : Cell) (cd' : Int32) (k : Nat) (g : Nat → Int32) (z : Int32) : Law l yN 2 1 1 14 yB 3 (some .boolean) site (P x t V cd n f y t' V' cd' k g z) (Says01 (SameT n f k g)) [] 0 0 := by
  refine Law.of_walk (plainFor_of_name (by decide +kernel)) (by decide +kernel) (by decide +kernel) (by decide) (fun _ _ h => by rw [h.1]; rfl) (fun _ U U' hal hh h => ⟨h.1, h.2.1.mv hal hh, h.2.2.1.mv hal hh, h.2.2.2.1.there hal hh, h.2.2.2.2⟩) (fun r U U' V V' h1 hal h2 h => Says01.mv r U U' V V' h1 hal h2 h) ?_
  intro p e s m args below meth c s₁ X0 hexec hbytes hml hret hlk hnm hown hh0 W hP
  obtain ⟨rfl, hx, hy, s1, hz⟩ := hP
  have c1 : Steps p.tables e below (s₁.setTop (entryFrame m #[.ref x, .ref y] 3)) (s₁.setTop (mkF m 2 #[.val (.ref x), .val (.ref y), .unset] [.ref y, .ref x])) := Steps.trans (entry rfl) (by
    show Steps p.tables e below (s₁.setTop (mkF m 0 #[.val (.ref x), .val (.ref y), .unset] [])) _
    refine XS.aloadN X0.here hexec rfl (hb hbytes d0) rfl rfl ?_
    refine XS.aloadN X0.here hexec rfl (hb hbytes d1) rfl rfl ?_
    exact Steps.refl _)
  by_cases hxy : x = y
  · have c2 : Steps p.tables e below (s₁.setTop (entryFrame m #[.ref x, .ref y] 3)) (s₁.setTop (mkF m 6 #[.val (.ref x), .val (.ref y), .unset] [.int 1])) := c1.trans (by
      refine acmpNo X0.here hexec rfl (hb hbytes d2) rfl rfl rfl (by simp [acmp, hxy]) ?_
      refine iconstV X0.here hexec rfl 1 (hb hbytes d5) (by decide) ?_
      exact Steps.refl _)
    subst hxy
    have ec : cd = cd' := by
      obtain ⟨D, fd, a1, a2, a3⟩ := hx.2.2.1
      obtain ⟨D', fd', b1, b2, b3⟩ := hy.2.2.1
      cases a1.symm.trans b1
      obtain ⟨q1, q2, q3, q4⟩ := a2.1
      obtain ⟨r1, r2, r3, r4⟩ := b2.1
      cases q4.symm.trans r4
      cases a3.symm.trans b3; rfl
    have et : t = t' := by
      obtain ⟨D, fd, a1, a2, a3⟩ := hx.2.1
      obtain ⟨D', fd', b1, b2, b3⟩ := hy.2.1
      cases a1.symm.trans b1
      obtain ⟨q1, q2, q3, q4⟩ := a2.1
      obtain ⟨r1, r2, r3, r4⟩ := b2.1
      cases q4.symm.trans r4
      cases a3.symm.trans b3; rfl
    subst ec et
    have ev : V = V' := by cases hx.2.2.2.1.1.symm.trans hy.2.2.2.1.1; rfl
    subst ev
    have hs : SameT n f k g := (Cod.eqv hx.2.2.2.2.1 hy.2.2.2.2.1 hx.2.2.2.2.2 hy.2.2.2.2.2).mp ⟨rfl, fun _ _ => rfl⟩
    exact ⟨s₁, some (.int 1), _, _, _, X0, rfl, rfl, rfl, (fun h => by cases h), ⟨1, rfl, hh0, Or.inl ⟨rfl, hs⟩⟩, fun fs hl => c2.trans (X0.ireturnOut hexec hret rfl (Or.inr (Or.inl rfl)) (hb hbytes d6) hl)⟩
  · have c2 : Steps p.tables e below (s₁.setTop (entryFrame m #[.ref x, .ref y] 3)) (s₁.setTop (mkF m 8 #[.val (.ref x), .val (.ref y), .unset] [.ref y])) := c1.trans (by
      refine acmpYes X0.here hexec rfl (pc0 := 2) rfl (hb hbytes d2) rfl rfl rfl (by simp [acmp, hxy]) (by decide) rfl ?_
      refine XS.aloadN X0.here hexec rfl (hb hbytes d7) rfl rfl ?_
      exact Steps.refl _)
    obtain ⟨T3, X3, q3, st3⟩ := cinst X0 hexec hown (wk W (.classLink "java/lang/String" 10 "java/lang/String")) (hy.mv X0.warmed.alike hh0).1 (g := (mkF m 8 #[.val (.ref x), .val (.ref y), .unset] [.ref y])) rfl (rest := []) rfl (hb hbytes d8)
    have hh3 := q3.trans hh0
    have c4 : Steps p.tables e below (s₁.setTop (entryFrame m #[.ref x, .ref y] 3)) (T3.setTop (mkF m 15 #[.val (.ref x), .val (.ref y), .unset] [.ref y])) := (c2.trans (st3 _ (Steps.refl _))).trans (by
      refine XS.ifNo X3.here hexec rfl (hb hbytes d11) rfl (i0_eq_f (by decide)) ?_
      refine XS.aloadN X3.here hexec rfl (hb hbytes d14) rfl rfl ?_
      exact Steps.refl _)
    obtain ⟨T5, X5, q5, st5⟩ := cself X3 hexec hown (wk W (.classLink "java/lang/String" 10 "java/lang/String")) (hy.mv X3.warmed.alike hh3).1 (g := (mkF m 15 #[.val (.ref x), .val (.ref y), .unset] [.ref y])) rfl (rest := []) rfl (hb hbytes d15)
    have hh5 := q5.trans hh3
    have c6 : Steps p.tables e below (s₁.setTop (entryFrame m #[.ref x, .ref y] 3)) (T5.setTop (mkF m 19 #[.val (.ref x), .val (.ref y), .val (.ref y)] [])) := (c4.trans (st5 _ (Steps.refl _))).trans (by
      refine XS.astoreN X5.here hexec rfl (hb hbytes d18) rfl rfl rfl ?_
      exact Steps.refl _)
    obtain ⟨T7, X7, q7, st7⟩ := X5.sget hexec hown (wk W (.fieldLink "java/lang/String" 38 "java/lang/String" "COMPACT_STRINGS" "Z")) s1 (fun _ _ h => by rw [hh5]; exact h) (g := (mkF m 19 #[.val (.ref x), .val (.ref y), .val (.ref y)] [])) rfl (hb hbytes d19)
    have hh7 := q7.trans hh5
    have c8 : Steps p.tables e below (s₁.setTop (entryFrame m #[.ref x, .ref y] 3)) (T7.setTop (mkF m 26 #[.val (.ref x), .val (.ref y), .val (.ref y)] [.ref x])) := (c6.trans (st7 _ (Steps.refl _))).trans (by
      refine XS.ifNo X7.here hexec rfl (hb hbytes d22) rfl (i0_eq_f hz) ?_
      refine XS.aloadN X7.here hexec rfl (hb hbytes d25) rfl rfl ?_
      exact Steps.refl _)
    obtain ⟨T9, X9, q9, st9⟩ := X7.hget hexec hown (wk W (.fieldLink "java/lang/String" 15 "java/lang/String" "coder" "B")) (hx.mv X7.warmed.alike hh7).2.2.1 (g := (mkF m 26 #[.val (.ref x), .val (.ref y), .val (.ref y)] [.ref x])) rfl (rest := []) rfl (hb hbytes d26)
    have hh9 := q9.trans hh7
    have c10 : Steps p.tables e below (s₁.setTop (entryFrame m #[.ref x, .ref y] 3)) (T9.setTop (mkF m 30 #[.val (.ref x), .val (.ref y), .val (.ref y)] [.ref y, .int cd])) := (c8.trans (st9 _ (Steps.refl _))).trans (by
      refine XS.aloadN X9.here hexec rfl (hb hbytes d29) rfl rfl ?_
      exact Steps.refl _)
    obtain ⟨T11, X11, q11, st11⟩ := X9.hget hexec hown (wk W (.fieldLink "java/lang/String" 15 "java/lang/String" "coder" "B")) (hy.mv X9.warmed.alike hh9).2.2.1 (g := (mkF m 30 #[.val (.ref x), .val (.ref y), .val (.ref y)] [.ref y, .int cd])) rfl (rest := [.int cd]) rfl (hb hbytes d30)
    have hh11 := q11.trans hh9
    have c12 : Steps p.tables e below (s₁.setTop (entryFrame m #[.ref x, .ref y] 3)) (T11.setTop (mkF m 33 #[.val (.ref x), .val (.ref y), .val (.ref y)] [.int cd', .int cd])) := c10.trans (st11 _ (Steps.refl _))
    by_cases hcd : cd = cd'
    · subst hcd
      have c13 : Steps p.tables e below (s₁.setTop (entryFrame m #[.ref x, .ref y] 3)) (T11.setTop (mkF m 37 #[.val (.ref x), .val (.ref y), .val (.ref y)] [.ref x])) := c12.trans (by
        refine XS.icmpNo X11.here hexec rfl (hb hbytes d33) rfl (ii_ne_f rfl) ?_
        refine XS.aloadN X11.here hexec rfl (hb hbytes d36) rfl rfl ?_
        exact Steps.refl _)
      obtain ⟨T14, X14, q14, st14⟩ := X11.hget hexec hown (wk W (.fieldLink "java/lang/String" 9 "java/lang/String" "value" "[B")) (hx.mv X11.warmed.alike hh11).2.1 (g := (mkF m 37 #[.val (.ref x), .val (.ref y), .val (.ref y)] [.ref x])) rfl (rest := []) rfl (hb hbytes d37)
      have hh14 := q14.trans hh11
      have c15 : Steps p.tables e below (s₁.setTop (entryFrame m #[.ref x, .ref y] 3)) (T14.setTop (mkF m 41 #[.val (.ref x), .val (.ref y), .val (.ref y)] [.ref y, .ref t])) := (c13.trans (st14 _ (Steps.refl _))).trans (by
        refine XS.aloadN X14.here hexec rfl (hb hbytes d40) rfl rfl ?_
        exact Steps.refl _)
      obtain ⟨T16, X16, q16, st16⟩ := X14.hget hexec hown (wk W (.fieldLink "java/lang/String" 9 "java/lang/String" "value" "[B")) (hy.mv X14.warmed.alike hh14).2.1 (g := (mkF m 41 #[.val (.ref x), .val (.ref y), .val (.ref y)] [.ref y, .ref t])) rfl (rest := [.ref t]) rfl (hb hbytes d41)
      have hh16 := q16.trans hh14
      have c17 : Steps p.tables e below (s₁.setTop (entryFrame m #[.ref x, .ref y] 3)) (T16.setTop (mkF m 44 #[.val (.ref x), .val (.ref y), .val (.ref y)] [.ref t', .ref t])) := c15.trans (st16 _ (Steps.refl _))
      obtain ⟨v18, T18, X18, E18, g18⟩ := X16.callS hexec (LEq.law l t V t' V') hown (wks W (staticW "java/lang/String" 541 LEq.yN)) (wk W LEq.tab) (W := 0) (Nat.le_of_ble_eq_true rfl) (Nat.le_of_ble_eq_true rfl) (Nat.le_refl _) (Nat.le_refl _) (g := (mkF m 44 #[.val (.ref x), .val (.ref y), .val (.ref y)] [.ref t', .ref t])) rfl (by rw [hml]; rfl) c17 (argsL := [.ref t, .ref t']) (rest := []) rfl rfl (by show 2 * 0 + 0 ≤ _; decide) (hb hbytes d44) (⟨rfl, hx.2.2.2.1.mv X16.warmed.alike hh16, hx.2.2.2.2.1.ty, hy.2.2.2.1.mv X16.warmed.alike hh16, hy.2.2.2.2.1.ty⟩)
      obtain ⟨v, rfl, q18, hv⟩ := E18
      have iff := Cod.eqv hx.2.2.2.2.1 hy.2.2.2.2.1 hx.2.2.2.2.2 hy.2.2.2.2.2
      rcases hv with ⟨rfl, he⟩ | ⟨rfl, he⟩
      · have c19 : Steps p.tables e below (s₁.setTop (entryFrame m #[.ref x, .ref y] 3)) (T18.setTop (mkF m 55 #[.val (.ref x), .val (.ref y), .val (.ref y)] [.int 1])) := Steps.trans g18 (by
          refine XS.ifNo X18.here hexec rfl (hb hbytes d47) rfl (i0_eq_f (by decide)) ?_
          refine iconstV X18.here hexec rfl 1 (hb hbytes d50) (by decide) ?_
          refine XS.goto X18.here hexec rfl (pc0 := 51) rfl (hb hbytes d51) (by decide) rfl ?_
          exact Steps.refl _)
        exact ⟨T18, some (.int 1), _, _, _, X18, rfl, rfl, rfl, (fun h => by cases h), ⟨1, rfl, q18.trans hh16, Or.inl ⟨rfl, iff.mp he⟩⟩, fun fs hl => c19.trans (X18.ireturnOut hexec hret rfl (Or.inr (Or.inl rfl)) (hb hbytes d55) hl)⟩
      · have c19 : Steps p.tables e below (s₁.setTop (entryFrame m #[.ref x, .ref y] 3)) (T18.setTop (mkF m 55 #[.val (.ref x), .val (.ref y), .val (.ref y)] [.int 0])) := Steps.trans g18 (by
          refine XS.ifYes X18.here hexec rfl (pc0 := 47) rfl (hb hbytes d47) rfl (i0_eq_t rfl) (by decide) rfl ?_
          refine iconstV X18.here hexec rfl 0 (hb hbytes d54) (by decide) ?_
          exact Steps.refl _)
        exact ⟨T18, some (.int 0), _, _, _, X18, rfl, rfl, rfl, (fun h => by cases h), ⟨0, rfl, q18.trans hh16, Or.inr ⟨rfl, fun q => he (iff.mpr q)⟩⟩, fun fs hl => c19.trans (X18.ireturnOut hexec hret rfl (Or.inr (Or.inl rfl)) (hb hbytes d55) hl)⟩
    · have c13 : Steps p.tables e below (s₁.setTop (entryFrame m #[.ref x, .ref y] 3)) (T11.setTop (mkF m 55 #[.val (.ref x), .val (.ref y), .val (.ref y)] [.int 0])) := c12.trans (by
        refine XS.icmpYes X11.here hexec rfl (pc0 := 33) rfl (hb hbytes d33) rfl (ii_ne_t hcd) (by decide) rfl ?_
        refine iconstV X11.here hexec rfl 0 (hb hbytes d54) (by decide) ?_
        exact Steps.refl _)
      exact ⟨T11, some (.int 0), _, _, _, X11, rfl, rfl, rfl, (fun h => by cases h), ⟨0, rfl, hh11, Or.inr ⟨rfl, Cod.dif hx.2.2.2.2.1 hy.2.2.2.2.1 hcd⟩⟩, fun fs hl => c13.trans (X11.ireturnOut hexec hret rfl (Or.inr (Or.inl rfl)) (hb hbytes d55) hl)⟩
theorem pays {l : Launch} {R : Room} {p : Program} {e : Env} {below : List Frame} {s : State} {sargs : Array Value} {len W : Nat} (x t : Addr) (V : Cell) (cd : Int32) (n : Nat) (f : Nat → Int32) (y t' : Addr) (V' : Cell) (cd' : Int32) (k : Nat) (g : Nat → Int32) (z : Int32) (htab : tab.before sargs s = true) (hfr : 2 ≤ R.frames) (hlo : W + 28 ≤ R.locals) :
    Back l R p e below s sargs yN len W (fun A₁ a₁ => A₁.cells + 0 ≤ R.cells ∧ A₁.slots + 0 ≤ R.slots ∧ P x t V cd n f y t' V' cd' k g z a₁ A₁.U) (fun A₁ _ v₁ B₁ => Says01 (SameT n f k g) v₁ A₁.U B₁.U ∧ B₁.locs = A₁.locs ++ [] ∧ B₁.cells = A₁.cells + 0 ∧ B₁.slots = A₁.slots + 0) :=
  (law l x t V cd n f y t' V' cd' k g z).pays htab hfr (by omega)
end SEq
end StrChars
namespace StrChars.Road
open Jvm Sem ClassFile Op Lib Jvm.Stand Jvm.Free Jvm.Free.XT
open Jvm.Lib.Cold (StaticIs)
/-- the words of String.equals(Object) -/
abbrev wordsEq : List Jvm.Cond := [.code SEq.yN SEq.yB 3 (some .boolean), .initialized ST, .classLink ST 10 ST, .fieldLink ST 38 ST "COMPACT_STRINGS" "Z", .fieldLink ST 15 ST "coder" "B", .fieldLink ST 9 ST "value" "[B", .methodLink ST 541 LEq.yN, .static LEq.yN, .code LEq.yN LEq.yB 3 (some .boolean), .initialized "java/lang/StringLatin1"]
theorem tabEq_of {a : Array Value} {s : State} (h : ∀ w ∈ wordsEq, w.before a s = true) : SEq.tab.before a s = true := by
  have hl : LEq.tab.before a s = true := unparts (wk h (.code LEq.yN LEq.yB 3 (some .boolean))) (wks h (.initialized LEq.yN.cls :: LEq.site))
  have q := consq hl h
  exact unparts (wk q (.code SEq.yN SEq.yB 3 (some .boolean))) (wks q (.initialized SEq.yN.cls :: SEq.site))
theorem movedEq {Z s : State} {a0 args : Array Value} (hZ : Z.Warmed39 s.vm) (hw : ∀ d ∈ wordsEq, d.before a0 Z = true) : ∀ d ∈ wordsEq, d.before args s = true := fun d hd => by
  have t : ∀ d ∈ wordsEq, (d.onTables && d.keepsFace) = true := by decide +kernel
  exact RoadKit.mv hZ (hw d hd) (t d hd)
/-- the road's facts of a String, as the laws ask it -/
theorem txt_of {Z U : State} {a0 : Array Value} {kI : Nat} (wi : (Jvm.Cond.instantiable ST kI).before a0 Z = true) (al : Z.vm.Alike U.vm) {x t : Addr} {kb : ClassId} {cs : List Int32} {cd N2 : Int32} {vs : List Value} (E : RoadKit.Exa Z U.heap x ST) (V : RoadKit.Fld Z U.heap x ST "value" "[B" (.ref t)) (C : RoadKit.Fld Z U.heap x ST "coder" "B" (.int cd)) (K : RoadKit.Arv Z U.heap t kb .byte N2 vs (.int 0)) (hc : CodA cs cd N2 vs) (hb : ∀ c ∈ cs, ¬ c < 0 ∧ ¬ (65535 : Int32) < c) (l2 : cs.length ≤ 4000) :
    ∃ A, Txt x t A cd cs.length (fun j => cs.getD j 0) U := by
  obtain ⟨A, K1, K2, K3, K4, K5, K6⟩ := K
  have hcod := hc.cod (by omega) K3 K5
  obtain ⟨D, fV, fC, hB, F1, F2, g1, g2, -, -⟩ := strObj wi al E V C
  exact ⟨A, ⟨_, hB.2.2.1, D, hB.1, rfl, by cases q : D.vm <;> first | rfl | exact absurd q (hB.2.1.2 _)⟩, Has.of hB F1 g1, Has.of hB F2 g2, ⟨K1.1, State.isArrayOf_alike al K1.2.1, K1.2.2, by rcases hcod with ⟨-, q, -⟩ | ⟨-, q, -⟩ <;> omega⟩, hcod, fun j hj => by
    have e : cs.getD j 0 = cs[j] := by simp [List.getD_eq_getElem?_getD, hj]
    show ¬ cs.getD j 0 < 0 ∧ ¬ 65535 < cs.getD j 0
    rw [e]; exact hb _ (List.getElem_mem _)⟩
theorem same_list (cs ds : List Int32) : SameT cs.length (fun j => cs.getD j 0) ds.length (fun j => ds.getD j 0) ↔ cs = ds := by
  constructor
  · rintro ⟨e, q⟩
    refine List.ext_getElem e fun j h1 h2 => ?_
    have := q j h1
    simpa [List.getD_eq_getElem?_getD, h1, h2] using this
  · rintro rfl
    exact ⟨rfl, fun _ _ => rfl⟩
/-- **equals(Object) OF TWO SUCH STRINGS**: 1 just where the chars are the same -/
theorem eqW {p : Program} {l : Launch} {e : Env} {R : Room} {s : State} {args : Array Value} {below : List Frame} {len W : Nat} {Z : State} {a0 : Array Value} {h : Heap} (hZ : Z.Warmed39 s.vm) (hw : ∀ d ∈ wordsEq, d.before a0 Z = true) {kI : Nat} (wi : (Jvm.Cond.instantiable ST kI).before a0 Z = true)
    {x t : Addr} {kb : ClassId} {cs : List Int32} {cd N2 : Int32} {vs : List Value} (E : RoadKit.Exa Z h x ST) (V : RoadKit.Fld Z h x ST "value" "[B" (.ref t)) (C : RoadKit.Fld Z h x ST "coder" "B" (.int cd)) (K : RoadKit.Arv Z h t kb .byte N2 vs (.int 0)) (hc : CodA cs cd N2 vs) (hb : ∀ c ∈ cs, ¬ c < 0 ∧ ¬ (65535 : Int32) < c) (l2 : cs.length ≤ 4000)
    {y t' : Addr} {kb' : ClassId} {ds : List Int32} {cd' N2' : Int32} {vs' : List Value} (E' : RoadKit.Exa Z h y ST) (V' : RoadKit.Fld Z h y ST "value" "[B" (.ref t')) (C' : RoadKit.Fld Z h y ST "coder" "B" (.int cd')) (K' : RoadKit.Arv Z h t' kb' .byte N2' vs' (.int 0)) (hc' : CodA ds cd' N2' vs') (hb' : ∀ c ∈ ds, ¬ c < 0 ∧ ¬ (65535 : Int32) < c) (l2' : ds.length ≤ 4000)
    {z : Int32} (S : RoadKit.Sta Z h ST "COMPACT_STRINGS" "Z" (.int z)) (hz : ¬ z = 0) (hfr : 2 ≤ R.frames) (hlo : W + 28 ≤ R.locals) :
    Back l R p e below s args (⟨"java/lang/String", "equals", "(Ljava/lang/Object;)Z"⟩ : MethodName) len W (fun P a => a = #[.ref x, .ref y] ∧ P.U.heap = h ∧ P.cells + 0 ≤ R.cells ∧ P.slots + 0 ≤ R.slots)
      (fun P _ v B => ∃ L, (((v = some (.int 1) ∧ cs = ds) ∨ (v = some (.int 0) ∧ ¬ cs = ds)) ∧ L = [] ∧ B.U.heap = h) ∧ B.locs = P.locs ++ L ∧ B.cells = P.cells + 0 ∧ B.slots = P.slots + 0) := by
  intro m meth c P g ig mk a X hg hsize hdg hW hn hp'
  obtain ⟨rfl, rfl, r1, r2⟩ := hp'
  have al : Z.vm.Alike P.U.vm := hZ.alike.trans X.warmed.alike
  obtain ⟨A, hx⟩ := txt_of wi al E V C K hc hb l2
  obtain ⟨A', hy⟩ := txt_of wi al E' V' C' K' hc' hb' l2'
  obtain ⟨v, B, X', ⟨⟨w, hv, hh, hq⟩, hl, hk, hs⟩, st⟩ := SEq.pays x t A cd cs.length (fun j => cs.getD j 0) y t' A' cd' ds.length (fun j => ds.getD j 0) z (tabEq_of (movedEq hZ hw)) hfr hlo m meth c P g ig mk _ X hg hsize hdg hW hn ⟨r1, r2, rfl, hx, hy, sta_is al S, hz⟩
  refine ⟨v, B, X', ⟨[], ⟨?_, rfl, hh⟩, hl, hk, hs⟩, st⟩
  rcases hq with ⟨rfl, q⟩ | ⟨rfl, q⟩
  · exact Or.inl ⟨hv, (same_list cs ds).mp q⟩
  · exact Or.inr ⟨hv, fun e => q ((same_list cs ds).mpr e)⟩
end StrChars.Road
namespace StrChars.Road
open Jvm Sem ClassFile Op Lib Jvm.Stand Jvm.Free Jvm.Free.XT
open Jvm.Lib.Cold (StaticIs)
/-- what backV says of its String, as the contracts of this text ask it: cs's low bytes, coder 0 -/
theorem codOf {cs : List Int32} {n : Nat} (hn : cs.length = n) (hb : ∀ c ∈ cs, ¬ 255 < c) : CodA cs 0 (Int32.ofNat n) ((cs.map lo8).map Value.int) := Or.inl ⟨rfl, by rw [hn], by simp [List.map_map, Function.comp_def], hb⟩
end StrChars.Road
end Jvm.Pilot.@@N@@
namespace Jvm.Pilot.@@N@@.W
open Jvm Jvm.ClassFile Sem Op Lib Jvm.Free Jvm.Stand Jvm.LawKit Jvm.RoadKit
/-- a String with the chars cs -/
def Str (Z : State) (h : Heap) (a : Addr) (cs : List Int32) : Prop :=
  ∃ (t : Addr) (kb : ClassId) (cd N2 : Int32) (vs : List Value), Exa Z h a "java/lang/String" ∧ Fld Z h a "java/lang/String" "value" "[B" (.ref t) ∧ Fld Z h a "java/lang/String" "coder" "B" (.int cd) ∧ Arv Z h t kb .byte N2 vs (.int 0) ∧ StrChars.Road.CodA cs cd N2 vs ∧ (∀ c ∈ cs, ¬ c < 0 ∧ ¬ (65535 : Int32) < c) ∧ cs.length ≤ 4000
theorem Str.ext {Z : State} {h h' : Heap} {a : Addr} {cs : List Int32} (F : Str Z h a cs) (E : Ext h h') : Str Z h' a cs := by
  obtain ⟨t, kb, cd, N2, vs, f1, f2, f3, f4, f5⟩ := F
  exact ⟨t, kb, cd, N2, vs, f1.ext E, f2.ext E, f3.ext E, f4.ext E, f5⟩
theorem Str.exa {Z : State} {h : Heap} {a : Addr} {cs : List Int32} (F : Str Z h a cs) : Exa Z h a "java/lang/String" := by
  obtain ⟨t, kb, cd, N2, vs, f1, -⟩ := F; exact f1
theorem up16 {cs : List Int32} (h : ∀ c ∈ cs, ¬ c < 0 ∧ ¬ (255 : Int32) < c) : ∀ c ∈ cs, ¬ c < 0 ∧ ¬ (65535 : Int32) < c := fun c hc => ⟨(h c hc).1, fun q => (h c hc).2 (by rw [Int32.lt_iff_toInt_lt] at q ⊢; have e1 : (65535 : Int32).toInt = 65535 := rfl; have e2 : (255 : Int32).toInt = 255 := rfl; omega)⟩
/-- a text's chars -/
def chs (text : String) : List Int32 := text.toList.map fun c => Int32.ofNat c.toNat
theorem Str.lit {Z : State} {h : Heap} {xs : List Addr} {a : Addr} {text : String} (hlat : ∀ c ∈ text.toList, c.toNat < 256) (hlen : text.toList.length ≤ 4000) (F : ∃ units : Array UInt16, utf16ToString? units = some text ∧ Lt Z h xs a units) : Str Z h a (chs text) := by
  obtain ⟨units, hu, t, kb, f1, f2, f3, f4, -, -⟩ := F
  have e := Jvm.ClassFile.units_of_text hu hlat
  have hsz : units.size = (chs text).length := by rw [← Array.length_toList, e]; simp [chs]
  have t255 : ∀ k : Fin 256, Jvm.Lit.byteI (k.val.toUInt16) = (Int32.ofNat k.val).toInt8.toInt32 ∧ ¬ (255 : Int32) < Int32.ofNat k.val ∧ ¬ Int32.ofNat k.val < 0 := by decide +kernel
  have hb : ∀ c ∈ chs text, ¬ c < 0 ∧ ¬ (255 : Int32) < c := fun c hc => by
    obtain ⟨ch, h1, rfl⟩ := List.mem_map.mp hc
    exact ⟨(t255 ⟨_, hlat ch h1⟩).2.2, (t255 ⟨_, hlat ch h1⟩).2.1⟩
  refine ⟨t, kb, 0, _, _, f1, f2, f3, f4, Or.inl ⟨rfl, by rw [hsz], ?_, fun c hc => (hb c hc).2⟩, up16 hb, by simpa [chs] using hlen⟩
  rw [e]
  simp only [chs, List.map_map]
  refine List.map_congr_left fun ch h1 => ?_
  exact congrArg Value.int (t255 ⟨_, hlat ch h1⟩).1
/-- a constructor's writes into an object that is no String leave every String -/
theorem Str.keepO {Z : State} {h h' : Heap} {s a : Addr} {C : String} {cs : List Int32} {a0 : Array Value} {n : Nat} (F : Str Z h s cs) (E : Exa Z h a C) (hC : C ≠ "java/lang/String") (wi : (Cond.instantiable C n).before a0 Z = true) (K : Keep h h' [a]) : Str Z h' s cs := by
  obtain ⟨t, kb, cd, N2, vs, f1, f2, f3, f4, f5⟩ := F
  have n1 : s ∉ [a] := ninS (fun q => (Exa.ne E f1 hC) q.symm) nin0
  have n2 : t ∉ [a] := ninS (fun q => (Exa.neArv E f4 wi) q.symm) nin0
  exact ⟨t, kb, cd, N2, vs, f1.keep K, f2.keep K n1, f3.keep K n1, f4.keep K n2, f5⟩
section Rules
variable {p : Program} {l : Launch} {e : Env} {R : Room} {s : State} {m : MethodId} {args : Array Value} {below : List Frame} {meth : Method} {c : Code} {Z : State} {a0 : Array Value} {own mn : String} {cl : List (String × Nat)} {xs0 xs : List Addr} {bytes : ByteArray} {maxL : Nat} {ret : Option FieldType} {n0 kc ks : Nat} {Q : Option Value → Heap → Prop} {h : Heap} {cells slots : Nat} {pc q : Nat} {L : Array Slot} {S : List Value}
/-- new String(char[]): 1 to 4,000 chars, each 0 to 255 -/
theorem Go.newStr (K : Cx0 bytes maxL ret mn p meth c) (hq : pc + 3 = q) (hws : ∀ d ∈ StrChars.Road.words, d.before a0 Z = true) (wi : (Cond.instantiable "java/lang/String" 4).before a0 Z = true) {i : Nat} {bytes' : ByteArray} (w1 : (Cond.methodLink own i (⟨"java/lang/String", "<init>", "([C)V"⟩ : MethodName)).before a0 Z = true) (w2 : (Cond.instanceMethod (⟨"java/lang/String", "<init>", "([C)V"⟩ : MethodName)).before a0 Z = true) (w4 : (Cond.code (⟨"java/lang/String", "<init>", "([C)V"⟩ : MethodName) bytes' 2 none).before a0 Z = true)
    {x b : Addr} {kC : ClassId} {cs : List Int32} {d v0 c0 : Value} {z N : Int32} {n : Nat} (hx0 : n0 ≤ x) (hh0 : n0 ≤ h.size) (E : Exa Z h x "java/lang/String") (V : Fld Z h x "java/lang/String" "value" "[B" v0) (C : Fld Z h x "java/lang/String" "coder" "B" c0) (A : Arv Z h b kC .char N (cs.map Value.int) d) (Sa : Sta Z h "java/lang/String" "COMPACT_STRINGS" "Z" (.int z)) (hz : ¬ z = 0)
    (hn : cs.length = n) (hN : N = Int32.ofNat n) (l0 : 0 < n) (l2 : n ≤ 4000) (hp : ∀ c ∈ cs, ¬ c < 0 ∧ ¬ (255 : Int32) < c) (hd : decode bytes pc = .ok (.invokespecial i, 3)) (hax : x ∈ xs) (hfr : 4 ≤ R.frames) {W cells' slots' : Nat} (hsz : L.size = maxL) (hW : (S.map fun v => v.category).sum ≤ W) (hlo : W + 65 ≤ R.locals) (hc : cells + 1 = cells') (hs : slots + n = slots') (hc' : cells' ≤ R.cells) (hs' : slots' ≤ R.slots)
    (r : ∀ h', Keep h h' [x] → Str Z h' x cs → Go p l e R s m args below meth c Z own cl xs0 n0 kc ks Q xs h' cells' slots' (mkF m q L S)) : Go p l e R s m args below meth c Z own cl xs0 n0 kc ks Q xs h cells slots (mkF m pc L (.ref b :: .ref x :: S)) :=
  Go.bI K hq rfl w1 w2 w4 (by decide) (fun s' hZ => StrChars.Road.backV (W := W) hZ hws (kI := 4) wi (cs := cs) (bs := cs.map (fun c => c.toInt8.toInt32)) (n := n) hx0 hh0 E V C A Sa hz hn hN l0 l2 hp rfl hfr hlo) (sig := ⟨[.array .char], none⟩) (by decide +kernel) (a := x) (argsL := [.ref b]) (rest := S) rfl rfl rfl hsz hW hd hc hs hc' hs'
    (fun v h' L' hQ => by
      obtain ⟨rfl, N', KK, g1, g2, t, kb, u1, u2, u3, g3, g4⟩ := hQ
      refine ⟨N', KK.1, xs, fun vm H => H.keep KK (allS hax all0), r h' KK ⟨t, kb, 0, N, _, g1, g3, g2, g4, ?_, up16 hp, by omega⟩⟩
      subst hN
      exact StrChars.Road.codOf hn (fun c hc => (hp c hc).2))
/-- equals of two Strings -/
theorem Go.strEq (K : Cx0 bytes maxL ret mn p meth c) (hq : pc + 3 = q) (hws : ∀ d ∈ StrChars.Road.wordsEq, d.before a0 Z = true) (wi : (Cond.instantiable "java/lang/String" 4).before a0 Z = true) {i : Nat} {y : MethodName} (w1 : (Cond.methodLink own i y).before a0 Z = true) (w2 : (Cond.declares y).before a0 Z = true) (nf : ∀ s' : State, Z.Warmed39 s'.vm → NotFace s' y) (w3 : (Cond.selects "java/lang/String" y (⟨"java/lang/String", "equals", "(Ljava/lang/Object;)Z"⟩ : MethodName)).before a0 Z = true) (w4 : (Cond.instanceMethod (⟨"java/lang/String", "equals", "(Ljava/lang/Object;)Z"⟩ : MethodName)).before a0 Z = true) (hy : y.cls ≠ "java/lang/invoke/MethodHandle" ∧ y.cls ≠ "java/lang/invoke/VarHandle") (hyd : y.desc = "(Ljava/lang/Object;)Z")
    {a b : Addr} {cs ds : List Int32} {z : Int32} (F : Str Z h a cs) (G : Str Z h b ds) (Sa : Sta Z h "java/lang/String" "COMPACT_STRINGS" "Z" (.int z)) (hz : ¬ z = 0) (hd : decode bytes pc = .ok (.invokevirtual i, 3)) (hfr : 2 ≤ R.frames) {W : Nat} (hsz : L.size = maxL) (hW : (S.map fun v => v.category).sum ≤ W) (hlo : W + 28 ≤ R.locals) (hc : cells ≤ R.cells) (hs : slots ≤ R.slots)
    (r1 : cs = ds → Go p l e R s m args below meth c Z own cl xs0 n0 kc ks Q xs h cells slots (mkF m q L (.int 1 :: S))) (r0 : ¬ cs = ds → Go p l e R s m args below meth c Z own cl xs0 n0 kc ks Q xs h cells slots (mkF m q L (.int 0 :: S))) : Go p l e R s m args below meth c Z own cl xs0 n0 kc ks Q xs h cells slots (mkF m pc L (.ref b :: .ref a :: S)) := by
  obtain ⟨t, kb, cd, N2, vs, f1, f2, f3, f4, f5, f6, f7⟩ := F
  obtain ⟨t', kb', cd', N2', vs', g1, g2, g3, g4, g5, g6, g7⟩ := G
  exact Go.bV K hq w1 w2 nf w3 w4 hy (W := W) (dc := 0) (ds := 0) (QQ := fun v h' L => ((v = some (.int 1) ∧ cs = ds) ∨ (v = some (.int 0) ∧ ¬ cs = ds)) ∧ L = [] ∧ h' = h) (fun s' hZ => StrChars.Road.eqW (W := W) hZ hws (kI := 4) wi f1 f2 f3 f4 f5 f6 f7 g1 g2 g3 g4 g5 g6 g7 Sa hz hfr hlo) f1 (sig := ⟨[.object "java/lang/Object"], some .boolean⟩) (by rw [hyd]; decide +kernel) (argsL := [.ref b]) (rest := S) rfl rfl rfl hsz hW hd rfl rfl hc hs
    (fun v h' L' hQ => by
      obtain ⟨hv, rfl, rfl⟩ := hQ
      refine ⟨Fr.nil n0, Nat.le_refl _, xs, fun vm H => H, ?_⟩
      rcases hv with ⟨rfl, q1⟩ | ⟨rfl, q1⟩
      · exact r1 q1
      · exact r0 q1)
end Rules
end Jvm.Pilot.@@N@@.W
namespace Jvm.Pilot.@@N@@
open Jvm Jvm.ClassFile Sem Op Lib Jvm.Free Jvm.Stand Jvm.LawKit Jvm.RoadKit Bundle Jvm.Pilot.@@N@@.W Jvm.Pilot.@@N@@.Jvm.D
theorem d3_0 : decode jdk_43_method_3_code 0 = .ok (.iload_n 0, 1) := by decide +kernel
theorem d3_1 : decode jdk_43_method_3_code 1 = .ok (.sipush 255, 3) := by decide +kernel
theorem d3_4 : decode jdk_43_method_3_code 4 = .ok (.if_icmp .gt 7, 3) := by decide +kernel
theorem d3_7 : decode jdk_43_method_3_code 7 = .ok (.iconst 1, 1) := by decide +kernel
theorem d3_8 : decode jdk_43_method_3_code 8 = .ok (.goto 4, 3) := by decide +kernel
theorem d3_12 : decode jdk_43_method_3_code 12 = .ok (.ireturn, 1) := by decide +kernel
theorem d4_0 : decode jdk_43_method_46_code 0 = .ok (.iconst 1, 1) := by decide +kernel
theorem d4_1 : decode jdk_43_method_46_code 1 = .ok (.newarray .byte, 2) := by decide +kernel
theorem d4_3 : decode jdk_43_method_46_code 3 = .ok (.dup, 1) := by decide +kernel
theorem d4_4 : decode jdk_43_method_46_code 4 = .ok (.iconst 0, 1) := by decide +kernel
theorem d4_5 : decode jdk_43_method_46_code 5 = .ok (.iload_n 0, 1) := by decide +kernel
theorem d4_6 : decode jdk_43_method_46_code 6 = .ok (.i2b, 1) := by decide +kernel
theorem d4_7 : decode jdk_43_method_46_code 7 = .ok (.bastore, 1) := by decide +kernel
theorem d4_8 : decode jdk_43_method_46_code 8 = .ok (.areturn, 1) := by decide +kernel
theorem d5_0 : decode jdk_42_method_151_code 0 = .ok (.aload_n 0, 1) := by decide +kernel
theorem d5_1 : decode jdk_42_method_151_code 1 = .ok (.invokespecial 1, 3) := by decide +kernel
theorem d5_4 : decode jdk_42_method_151_code 4 = .ok (.aload_n 0, 1) := by decide +kernel
theorem d5_5 : decode jdk_42_method_151_code 5 = .ok (.aload_n 1, 1) := by decide +kernel
theorem d5_6 : decode jdk_42_method_151_code 6 = .ok (.putfield 9, 3) := by decide +kernel
theorem d5_9 : decode jdk_42_method_151_code 9 = .ok (.aload_n 0, 1) := by decide +kernel
theorem d5_10 : decode jdk_42_method_151_code 10 = .ok (.iload_n 2, 1) := by decide +kernel
theorem d5_11 : decode jdk_42_method_151_code 11 = .ok (.putfield 15, 3) := by decide +kernel
theorem d5_14 : decode jdk_42_method_151_code 14 = .ok (.return_, 1) := by decide +kernel
theorem d2_0 : decode jdk_42_method_139_code 0 = .ok (.getstatic 38, 3) := by decide +kernel
theorem d2_3 : decode jdk_42_method_139_code 3 = .ok (.ifCond .eq 23, 3) := by decide +kernel
theorem d2_6 : decode jdk_42_method_139_code 6 = .ok (.iload_n 0, 1) := by decide +kernel
theorem d2_7 : decode jdk_42_method_139_code 7 = .ok (.invokestatic 1015, 3) := by decide +kernel
theorem d2_10 : decode jdk_42_method_139_code 10 = .ok (.ifCond .eq 16, 3) := by decide +kernel
theorem d2_13 : decode jdk_42_method_139_code 13 = .ok (.new 10, 3) := by decide +kernel
theorem d2_16 : decode jdk_42_method_139_code 16 = .ok (.dup, 1) := by decide +kernel
theorem d2_17 : decode jdk_42_method_139_code 17 = .ok (.iload_n 0, 1) := by decide +kernel
theorem d2_18 : decode jdk_42_method_139_code 18 = .ok (.invokestatic 1018, 3) := by decide +kernel
theorem d2_21 : decode jdk_42_method_139_code 21 = .ok (.iconst 0, 1) := by decide +kernel
theorem d2_22 : decode jdk_42_method_139_code 22 = .ok (.invokespecial 209, 3) := by decide +kernel
theorem d2_25 : decode jdk_42_method_139_code 25 = .ok (.areturn, 1) := by decide +kernel
theorem d18_0 : decode jdk_18_method_1_code 0 = .ok (.aload_n 0, 1) := by decide +kernel
theorem d18_1 : decode jdk_18_method_1_code 1 = .ok (.invokespecial 1, 3) := by decide +kernel
theorem d18_4 : decode jdk_18_method_1_code 4 = .ok (.return_, 1) := by decide +kernel
theorem d17_0 : decode jdk_33_method_23_code 0 = .ok (.aload_n 0, 1) := by decide +kernel
theorem d17_1 : decode jdk_33_method_23_code 1 = .ok (.invokespecial 202, 3) := by decide +kernel
theorem d17_4 : decode jdk_33_method_23_code 4 = .ok (.aload_n 0, 1) := by decide +kernel
theorem d17_5 : decode jdk_33_method_23_code 5 = .ok (.iload_n 1, 1) := by decide +kernel
theorem d17_6 : decode jdk_33_method_23_code 6 = .ok (.putfield 205, 3) := by decide +kernel
theorem d17_9 : decode jdk_33_method_23_code 9 = .ok (.return_, 1) := by decide +kernel
theorem d16_23 : decode jdk_33_method_22_code 23 = .ok (.new 1, 3) := by decide +kernel
theorem d16_26 : decode jdk_33_method_22_code 26 = .ok (.dup, 1) := by decide +kernel
theorem d16_27 : decode jdk_33_method_22_code 27 = .ok (.iload_n 0, 1) := by decide +kernel
theorem d16_28 : decode jdk_33_method_22_code 28 = .ok (.invokespecial 199, 3) := by decide +kernel
theorem d16_31 : decode jdk_33_method_22_code 31 = .ok (.areturn, 1) := by decide +kernel
theorem d16_0 : decode jdk_33_method_22_code 0 = .ok (.iload_n 0, 1) := by decide +kernel
theorem d16_1 : decode jdk_33_method_22_code 1 = .ok (.bipush (-128), 2) := by decide +kernel
theorem d16_3 : decode jdk_33_method_22_code 3 = .ok (.if_icmp .lt 20, 3) := by decide +kernel
theorem d16_6 : decode jdk_33_method_22_code 6 = .ok (.iload_n 0, 1) := by decide +kernel
theorem d16_7 : decode jdk_33_method_22_code 7 = .ok (.getstatic 191, 3) := by decide +kernel
theorem d16_10 : decode jdk_33_method_22_code 10 = .ok (.if_icmp .gt 13, 3) := by decide +kernel
theorem d16_13 : decode jdk_33_method_22_code 13 = .ok (.getstatic 195, 3) := by decide +kernel
theorem d16_16 : decode jdk_33_method_22_code 16 = .ok (.iload_n 0, 1) := by decide +kernel
theorem d16_17 : decode jdk_33_method_22_code 17 = .ok (.sipush 128, 3) := by decide +kernel
theorem d16_20 : decode jdk_33_method_22_code 20 = .ok (.iadd, 1) := by decide +kernel
theorem d16_21 : decode jdk_33_method_22_code 21 = .ok (.aaload, 1) := by decide +kernel
theorem d16_22 : decode jdk_33_method_22_code 22 = .ok (.areturn, 1) := by decide +kernel
theorem d9_0 : decode jdk_30_method_1_code 0 = .ok (.aload_n 0, 1) := by decide +kernel
theorem d9_1 : decode jdk_30_method_1_code 1 = .ok (.invokespecial 1, 3) := by decide +kernel
theorem d9_4 : decode jdk_30_method_1_code 4 = .ok (.return_, 1) := by decide +kernel
theorem d1_0 : decode method_3_code 0 = .ok (.iload_n 0, 1) := by decide +kernel
theorem d1_1 : decode method_3_code 1 = .ok (.ifCond .ne 9, 3) := by decide +kernel
theorem d1_10 : decode method_3_code 10 = .ok (.iload_n 0, 1) := by decide +kernel
theorem d1_11 : decode method_3_code 11 = .ok (.iconst 1, 1) := by decide +kernel
theorem d1_12 : decode method_3_code 12 = .ok (.if_icmp .ne 11, 3) := by decide +kernel
theorem d1_23 : decode method_3_code 23 = .ok (.new 37, 3) := by decide +kernel
theorem d1_26 : decode method_3_code 26 = .ok (.dup, 1) := by decide +kernel
theorem d1_27 : decode method_3_code 27 = .ok (.iconst 2, 1) := by decide +kernel
theorem d1_28 : decode method_3_code 28 = .ok (.newarray .char, 2) := by decide +kernel
theorem d1_30 : decode method_3_code 30 = .ok (.dup, 1) := by decide +kernel
theorem d1_31 : decode method_3_code 31 = .ok (.iconst 0, 1) := by decide +kernel
theorem d1_32 : decode method_3_code 32 = .ok (.iload_n 1, 1) := by decide +kernel
theorem d1_33 : decode method_3_code 33 = .ok (.castore, 1) := by decide +kernel
theorem d1_34 : decode method_3_code 34 = .ok (.dup, 1) := by decide +kernel
theorem d1_35 : decode method_3_code 35 = .ok (.iconst 1, 1) := by decide +kernel
theorem d1_36 : decode method_3_code 36 = .ok (.iload_n 2, 1) := by decide +kernel
theorem d1_37 : decode method_3_code 37 = .ok (.castore, 1) := by decide +kernel
theorem d1_38 : decode method_3_code 38 = .ok (.invokespecial 42, 3) := by decide +kernel
theorem d1_41 : decode method_3_code 41 = .ok (.astore_n 3, 1) := by decide +kernel
theorem d1_42 : decode method_3_code 42 = .ok (.aload_n 3, 1) := by decide +kernel
theorem d1_43 : decode method_3_code 43 = .ok (.areturn, 1) := by decide +kernel
theorem d1_15 : decode method_3_code 15 = .ok (.iload_n 1, 1) := by decide +kernel
theorem d1_16 : decode method_3_code 16 = .ok (.invokestatic 36, 3) := by decide +kernel
theorem d1_19 : decode method_3_code 19 = .ok (.astore_n 3, 1) := by decide +kernel
theorem d1_20 : decode method_3_code 20 = .ok (.goto 22, 3) := by decide +kernel
theorem d1_4 : decode method_3_code 4 = .ok (.ldc 34, 2) := by decide +kernel
theorem d1_6 : decode method_3_code 6 = .ok (.astore_n 3, 1) := by decide +kernel
theorem d1_7 : decode method_3_code 7 = .ok (.goto 35, 3) := by decide +kernel
theorem d7_0 : decode method_2_code 0 = .ok (.iload_n 0, 1) := by decide +kernel
theorem d7_1 : decode method_2_code 1 = .ok (.ifCond .ne 10, 3) := by decide +kernel
theorem d7_11 : decode method_2_code 11 = .ok (.iload_n 0, 1) := by decide +kernel
theorem d7_12 : decode method_2_code 12 = .ok (.iconst 1, 1) := by decide +kernel
theorem d7_13 : decode method_2_code 13 = .ok (.if_icmp .ne 10, 3) := by decide +kernel
theorem d7_23 : decode method_2_code 23 = .ok (.iload_n 0, 1) := by decide +kernel
theorem d7_24 : decode method_2_code 24 = .ok (.iconst 2, 1) := by decide +kernel
theorem d7_25 : decode method_2_code 25 = .ok (.if_icmp .ne 10, 3) := by decide +kernel
theorem d7_35 : decode method_2_code 35 = .ok (.iload_n 0, 1) := by decide +kernel
theorem d7_36 : decode method_2_code 36 = .ok (.iconst 3, 1) := by decide +kernel
theorem d7_37 : decode method_2_code 37 = .ok (.if_icmp .ne 10, 3) := by decide +kernel
theorem d7_47 : decode method_2_code 47 = .ok (.iload_n 0, 1) := by decide +kernel
theorem d7_48 : decode method_2_code 48 = .ok (.iconst 4, 1) := by decide +kernel
theorem d7_49 : decode method_2_code 49 = .ok (.if_icmp .ne 10, 3) := by decide +kernel
theorem d7_59 : decode method_2_code 59 = .ok (.iload_n 0, 1) := by decide +kernel
theorem d7_60 : decode method_2_code 60 = .ok (.iconst 5, 1) := by decide +kernel
theorem d7_61 : decode method_2_code 61 = .ok (.if_icmp .ne 10, 3) := by decide +kernel
theorem d7_71 : decode method_2_code 71 = .ok (.iload_n 0, 1) := by decide +kernel
theorem d7_72 : decode method_2_code 72 = .ok (.bipush 6, 2) := by decide +kernel
theorem d7_74 : decode method_2_code 74 = .ok (.if_icmp .ne 10, 3) := by decide +kernel
theorem d7_84 : decode method_2_code 84 = .ok (.getstatic 31, 3) := by decide +kernel
theorem d7_87 : decode method_2_code 87 = .ok (.astore_n 1, 1) := by decide +kernel
theorem d7_88 : decode method_2_code 88 = .ok (.aload_n 1, 1) := by decide +kernel
theorem d7_89 : decode method_2_code 89 = .ok (.areturn, 1) := by decide +kernel
theorem d7_77 : decode method_2_code 77 = .ok (.getstatic 28, 3) := by decide +kernel
theorem d7_80 : decode method_2_code 80 = .ok (.astore_n 1, 1) := by decide +kernel
theorem d7_81 : decode method_2_code 81 = .ok (.goto 7, 3) := by decide +kernel
theorem d7_64 : decode method_2_code 64 = .ok (.getstatic 25, 3) := by decide +kernel
theorem d7_67 : decode method_2_code 67 = .ok (.astore_n 1, 1) := by decide +kernel
theorem d7_68 : decode method_2_code 68 = .ok (.goto 20, 3) := by decide +kernel
theorem d7_52 : decode method_2_code 52 = .ok (.getstatic 22, 3) := by decide +kernel
theorem d7_55 : decode method_2_code 55 = .ok (.astore_n 1, 1) := by decide +kernel
theorem d7_56 : decode method_2_code 56 = .ok (.goto 32, 3) := by decide +kernel
theorem d7_40 : decode method_2_code 40 = .ok (.getstatic 19, 3) := by decide +kernel
theorem d7_43 : decode method_2_code 43 = .ok (.astore_n 1, 1) := by decide +kernel
theorem d7_44 : decode method_2_code 44 = .ok (.goto 44, 3) := by decide +kernel
theorem d7_28 : decode method_2_code 28 = .ok (.getstatic 16, 3) := by decide +kernel
theorem d7_31 : decode method_2_code 31 = .ok (.astore_n 1, 1) := by decide +kernel
theorem d7_32 : decode method_2_code 32 = .ok (.goto 56, 3) := by decide +kernel
theorem d7_16 : decode method_2_code 16 = .ok (.getstatic 13, 3) := by decide +kernel
theorem d7_19 : decode method_2_code 19 = .ok (.astore_n 1, 1) := by decide +kernel
theorem d7_20 : decode method_2_code 20 = .ok (.goto 68, 3) := by decide +kernel
theorem d7_4 : decode method_2_code 4 = .ok (.getstatic 7, 3) := by decide +kernel
theorem d7_7 : decode method_2_code 7 = .ok (.astore_n 1, 1) := by decide +kernel
theorem d7_8 : decode method_2_code 8 = .ok (.goto 80, 3) := by decide +kernel
theorem d8_0 : decode prog_19_method_1_code 0 = .ok (.aload_n 0, 1) := by decide +kernel
theorem d8_1 : decode prog_19_method_1_code 1 = .ok (.invokespecial 1, 3) := by decide +kernel
theorem d8_4 : decode prog_19_method_1_code 4 = .ok (.aload_n 0, 1) := by decide +kernel
theorem d8_5 : decode prog_19_method_1_code 5 = .ok (.aload_n 1, 1) := by decide +kernel
theorem d8_6 : decode prog_19_method_1_code 6 = .ok (.putfield 7, 3) := by decide +kernel
theorem d8_9 : decode prog_19_method_1_code 9 = .ok (.aload_n 0, 1) := by decide +kernel
theorem d8_10 : decode prog_19_method_1_code 10 = .ok (.aload_n 2, 1) := by decide +kernel
theorem d8_11 : decode prog_19_method_1_code 11 = .ok (.putfield 13, 3) := by decide +kernel
theorem d8_14 : decode prog_19_method_1_code 14 = .ok (.aload_n 0, 1) := by decide +kernel
theorem d8_15 : decode prog_19_method_1_code 15 = .ok (.aload_n 3, 1) := by decide +kernel
theorem d8_16 : decode prog_19_method_1_code 16 = .ok (.putfield 17, 3) := by decide +kernel
theorem d8_19 : decode prog_19_method_1_code 19 = .ok (.aload_n 0, 1) := by decide +kernel
theorem d8_20 : decode prog_19_method_1_code 20 = .ok (.iload 4, 2) := by decide +kernel
theorem d8_22 : decode prog_19_method_1_code 22 = .ok (.putfield 21, 3) := by decide +kernel
theorem d8_25 : decode prog_19_method_1_code 25 = .ok (.return_, 1) := by decide +kernel
theorem d10_0 : decode prog_19_method_3_code 0 = .ok (.aload_n 0, 1) := by decide +kernel
theorem d10_1 : decode prog_19_method_3_code 1 = .ok (.getfield 7, 3) := by decide +kernel
theorem d10_4 : decode prog_19_method_3_code 4 = .ok (.getstatic 36, 3) := by decide +kernel
theorem d10_7 : decode prog_19_method_3_code 7 = .ok (.if_acmp .ne 18, 3) := by decide +kernel
theorem d10_10 : decode prog_19_method_3_code 10 = .ok (.aload_n 0, 1) := by decide +kernel
theorem d10_11 : decode prog_19_method_3_code 11 = .ok (.getfield 13, 3) := by decide +kernel
theorem d10_14 : decode prog_19_method_3_code 14 = .ok (.aload_n 1, 1) := by decide +kernel
theorem d10_15 : decode prog_19_method_3_code 15 = .ok (.invokevirtual 39, 3) := by decide +kernel
theorem d10_18 : decode prog_19_method_3_code 18 = .ok (.ifCond .eq 7, 3) := by decide +kernel
theorem d10_21 : decode prog_19_method_3_code 21 = .ok (.iconst 1, 1) := by decide +kernel
theorem d10_22 : decode prog_19_method_3_code 22 = .ok (.goto 4, 3) := by decide +kernel
theorem d10_26 : decode prog_19_method_3_code 26 = .ok (.ireturn, 1) := by decide +kernel
theorem d10_25 : decode prog_19_method_3_code 25 = .ok (.iconst 0, 1) := by decide +kernel
theorem pd0 : parseMethodDescriptor "(C)Z" = some ⟨[.char], some .boolean⟩ := by decide +kernel
theorem pd1 : parseMethodDescriptor "(C)[B" = some ⟨[.char], some (.array .byte)⟩ := by decide +kernel
theorem pd2 : parseMethodDescriptor "([BB)V" = some ⟨[(.array .byte), .byte], none⟩ := by decide +kernel
theorem pd3 : parseMethodDescriptor "()V" = some ⟨[], none⟩ := by decide +kernel
theorem pd4 : parseMethodDescriptor "(I)V" = some ⟨[.int], none⟩ := by decide +kernel
theorem pd5 : parseMethodDescriptor "(C)Ljava/lang/String;" = some ⟨[.char], some (.object "java/lang/String")⟩ := by decide +kernel
theorem pd6 : parseMethodDescriptor "(ICC)Ljava/lang/String;" = some ⟨[.int, .char, .char], some (.object "java/lang/String")⟩ := by decide +kernel
theorem pd7 : parseMethodDescriptor "(I)Lcom/example/mirror_tables/mirrortables/query/JpqlLexer$Kind;" = some ⟨[.int], some (.object "com/example/mirror_tables/mirrortables/query/JpqlLexer$Kind")⟩ := by decide +kernel
theorem pd8 : parseMethodDescriptor "(Lcom/example/mirror_tables/mirrortables/query/JpqlLexer$Kind;Ljava/lang/String;Ljava/lang/Object;I)V" = some ⟨[(.object "com/example/mirror_tables/mirrortables/query/JpqlLexer$Kind"), (.object "java/lang/String"), (.object "java/lang/Object"), .int], none⟩ := by decide +kernel
theorem pd9 : parseMethodDescriptor "(Ljava/lang/String;)Z" = some ⟨[(.object "java/lang/String")], some .boolean⟩ := by decide +kernel
theorem pd10 : parseMethodDescriptor "(I)Ljava/lang/Integer;" = some ⟨[.int], some (.object "java/lang/Integer")⟩ := by decide +kernel
theorem pn0 : plainFor (⟨"java/lang/StringLatin1", "canEncode", "(C)Z"⟩ : MethodName) = true := plainFor_of_name (by first | (simp [plainName, overriddenIn]; done) | decide +kernel)
theorem pn1 : plainFor (⟨"java/lang/StringLatin1", "toBytes", "(C)[B"⟩ : MethodName) = true := plainFor_of_name (by first | (simp [plainName, overriddenIn]; done) | decide +kernel)
theorem pn2 : plainFor (⟨"java/lang/String", "<init>", "([BB)V"⟩ : MethodName) = true := plainFor_of_name (by first | (simp [plainName, overriddenIn]; done) | decide +kernel)
theorem pn3 : plainFor (⟨"java/lang/String", "valueOf", "(C)Ljava/lang/String;"⟩ : MethodName) = true := plainFor_of_name (by first | (simp [plainName, overriddenIn]; done) | decide +kernel)
theorem pn4 : plainFor (⟨"java/lang/Number", "<init>", "()V"⟩ : MethodName) = true := plainFor_of_name (by first | (simp [plainName, overriddenIn]; done) | decide +kernel)
theorem pn5 : plainFor (⟨"java/lang/Integer", "<init>", "(I)V"⟩ : MethodName) = true := plainFor_of_name (by first | (simp [plainName, overriddenIn]; done) | decide +kernel)
theorem pn6 : plainFor (⟨"java/lang/Integer", "valueOf", "(I)Ljava/lang/Integer;"⟩ : MethodName) = true := plainFor_of_name (by first | (simp [plainName, overriddenIn]; done) | decide +kernel)
theorem pn7 : plainFor (⟨"java/lang/Record", "<init>", "()V"⟩ : MethodName) = true := plainFor_of_name (by first | (simp [plainName, overriddenIn]; done) | decide +kernel)
theorem pn8 : plainFor (⟨"com/example/mirror_tables/mirrortables/query/TokenIsSymbolPinLaw", "make", "(ICC)Ljava/lang/String;"⟩ : MethodName) = true := plainFor_of_name (by first | (simp [plainName, overriddenIn]; done) | decide +kernel)
theorem pn9 : plainFor (⟨"com/example/mirror_tables/mirrortables/query/TokenIsSymbolPinLaw", "kindOf", "(I)Lcom/example/mirror_tables/mirrortables/query/JpqlLexer$Kind;"⟩ : MethodName) = true := plainFor_of_name (by first | (simp [plainName, overriddenIn]; done) | decide +kernel)
theorem pn10 : plainFor (⟨"com/example/mirror_tables/mirrortables/query/JpqlLexer$Token", "<init>", "(Lcom/example/mirror_tables/mirrortables/query/JpqlLexer$Kind;Ljava/lang/String;Ljava/lang/Object;I)V"⟩ : MethodName) = true := plainFor_of_name (by first | (simp [plainName, overriddenIn]; done) | decide +kernel)
theorem pn11 : plainFor (⟨"com/example/mirror_tables/mirrortables/query/JpqlLexer$Token", "isSymbol", "(Ljava/lang/String;)Z"⟩ : MethodName) = true := plainFor_of_name (by first | (simp [plainName, overriddenIn]; done) | decide +kernel)
theorem pn12 : plainFor (⟨"com/example/mirror_tables/mirrortables/query/TokenIsSymbolPinLaw", "law", "(IIIIII)Z"⟩ : MethodName) = true := plainFor_of_name (by first | (simp [plainName, overriddenIn]; done) | decide +kernel)
def own_mk (n c0 c1 : Int32) : List Int32 := if n = (0 : Int32) then [] else if n = (1 : Int32) then [c0] else [c0, c1]
theorem own_fin (x m : Int32) (n : Nat) (hm : m.toBitVec.toNat < n) : ∃ k : Fin n, x &&& m = Int32.ofNat k.val := by
  have h : (x &&& m).toBitVec.toNat < n := by
    simp only [Int32.toBitVec_and, BitVec.toNat_and]
    exact Nat.lt_of_le_of_lt Nat.and_le_right hm
  refine ⟨⟨_, h⟩, ?_⟩
  apply Int32.toBitVec_inj.mp
  show _ = BitVec.ofNat 32 _
  rw [BitVec.ofNat_toNat]; simp
theorem own_c8 (x : Int32) : ¬ ((x &&& (255 : Int32)).toUInt32.toUInt16.toUInt32.toInt32) < 0 ∧ ¬ (255 : Int32) < ((x &&& (255 : Int32)).toUInt32.toUInt16.toUInt32.toInt32) := by
  have t : ∀ k : Fin 256, ¬ ((Int32.ofNat k.val).toUInt32.toUInt16.toUInt32.toInt32) < 0 ∧ ¬ (255 : Int32) < ((Int32.ofNat k.val).toUInt32.toUInt16.toUInt32.toInt32) := by decide +kernel
  obtain ⟨k, e⟩ := own_fin x 255 256 (by decide)
  rw [e]; exact t k
theorem own_nc {c : Int32} (h : ¬ c < 0 ∧ ¬ (255 : Int32) < c) : nar .char c = c := by
  apply Int32.toInt_inj.mp
  have e := c_i2c c
  simp only [Int32.lt_iff_toInt_lt] at h
  have z0 : (0 : Int32).toInt = 0 := rfl
  have z1 : (255 : Int32).toInt = 255 := rfl
  show (c.toUInt32.toUInt16.toUInt32.toInt32).toInt = c.toInt
  omega
theorem own_3 {x v : Int32} (e : (x &&& (3 : Int32)) % (3 : Int32) = v) : v = 0 ∨ v = 1 ∨ v = 2 := by
  have t : ∀ k : Fin 4, Int32.ofNat k.val % (3 : Int32) = 0 ∨ Int32.ofNat k.val % (3 : Int32) = 1 ∨ Int32.ofNat k.val % (3 : Int32) = 2 := by decide +kernel
  obtain ⟨k, q⟩ := own_fin x 3 4 (by decide)
  rw [← e, q]; exact t k
theorem own_8 {x v : Int32} (e : x &&& (7 : Int32) = v) : v = 0 ∨ v = 1 ∨ v = 2 ∨ v = 3 ∨ v = 4 ∨ v = 5 ∨ v = 6 ∨ v = 7 := by
  have t : ∀ k : Fin 8, (Int32.ofNat k.val) = 0 ∨ (Int32.ofNat k.val) = 1 ∨ (Int32.ofNat k.val) = 2 ∨ (Int32.ofNat k.val) = 3 ∨ (Int32.ofNat k.val) = 4 ∨ (Int32.ofNat k.val) = 5 ∨ (Int32.ofNat k.val) = 6 ∨ (Int32.ofNat k.val) = 7 := by decide +kernel
  obtain ⟨k, q⟩ := own_fin x 7 8 (by decide)
  rw [← e, q]; exact t k
theorem own_m2 {la lb a0 a1 b0 b1 : Int32} (h : la = 0 ∨ la = 1 ∨ la = 2) (h' : lb = 0 ∨ lb = 1 ∨ lb = 2) (g : ¬ la = lb) : ¬ own_mk la a0 a1 = own_mk lb b0 b1 := by
  rcases h with rfl | rfl | rfl <;> rcases h' with rfl | rfl | rfl <;> simp [own_mk] at g ⊢
theorem own_m3 {la lb a0 a1 b0 b1 : Int32} (h : la = 0 ∨ la = 1 ∨ la = 2) (g : la = lb) (g3 : ¬ la < (1 : Int32)) (g4 : ¬ a0 = b0) : ¬ own_mk la a0 a1 = own_mk lb b0 b1 := by
  subst g; rcases h with rfl | rfl | rfl
  · exact absurd (by decide) g3
  · simp [own_mk, g4]
  · simp [own_mk, g4]
theorem own_m4 {la lb a0 a1 b0 b1 : Int32} (h : la = 0 ∨ la = 1 ∨ la = 2) (g : la = lb) (g3 : ¬ la < (2 : Int32)) (g4 : ¬ a1 = b1) : ¬ own_mk la a0 a1 = own_mk lb b0 b1 := by
  subst g; rcases h with rfl | rfl | rfl
  · exact absurd (by decide) g3
  · exact absurd (by decide) g3
  · simp [own_mk, g4]
theorem own_m1 {la lb a0 a1 b0 b1 : Int32} (h : la = 0 ∨ la = 1 ∨ la = 2) (g : la = lb) (g3 : la < (1 : Int32) ∨ a0 = b0) (g4 : la < (2 : Int32) ∨ a1 = b1) : own_mk la a0 a1 = own_mk lb b0 b1 := by
  subst g; rcases h with rfl | rfl | rfl
  · simp [own_mk]
  · rcases g3 with q | rfl
    · exact absurd q (by decide)
    · simp [own_mk]
  · rcases g3 with q | rfl
    · exact absurd q (by decide)
    · rcases g4 with q | rfl
      · exact absurd q (by decide)
      · rfl
def own_kd (k_IDENTIFIER k_STRING k_NUMBER k_DATE_TIME k_NAMED_PARAMETER k_POSITIONAL_PARAMETER k_SYMBOL k_END : Addr) (x : Int32) : Addr := if x = (0 : Int32) then k_IDENTIFIER else if x = (1 : Int32) then k_STRING else if x = (2 : Int32) then k_NUMBER else if x = (3 : Int32) then k_DATE_TIME else if x = (4 : Int32) then k_NAMED_PARAMETER else if x = (5 : Int32) then k_POSITIONAL_PARAMETER else if x = (6 : Int32) then k_SYMBOL else k_END
theorem own_k6 {x : Int32} {k_IDENTIFIER k_STRING k_NUMBER k_DATE_TIME k_NAMED_PARAMETER k_POSITIONAL_PARAMETER k_SYMBOL k_END : Addr} (h : x = 0 ∨ x = 1 ∨ x = 2 ∨ x = 3 ∨ x = 4 ∨ x = 5 ∨ x = 6 ∨ x = 7) (g : x = (6 : Int32)) (d_IDENTIFIER : k_IDENTIFIER ≠ k_SYMBOL) (d_STRING : k_STRING ≠ k_SYMBOL) (d_NUMBER : k_NUMBER ≠ k_SYMBOL) (d_DATE_TIME : k_DATE_TIME ≠ k_SYMBOL) (d_NAMED_PARAMETER : k_NAMED_PARAMETER ≠ k_SYMBOL) (d_POSITIONAL_PARAMETER : k_POSITIONAL_PARAMETER ≠ k_SYMBOL) (d_END : k_END ≠ k_SYMBOL) : own_kd k_IDENTIFIER k_STRING k_NUMBER k_DATE_TIME k_NAMED_PARAMETER k_POSITIONAL_PARAMETER k_SYMBOL k_END x = k_SYMBOL := by subst g; simp [own_kd]
theorem own_k0 {x : Int32} {k_IDENTIFIER k_STRING k_NUMBER k_DATE_TIME k_NAMED_PARAMETER k_POSITIONAL_PARAMETER k_SYMBOL k_END : Addr} (h : x = 0 ∨ x = 1 ∨ x = 2 ∨ x = 3 ∨ x = 4 ∨ x = 5 ∨ x = 6 ∨ x = 7) (g : ¬ x = (6 : Int32)) (d_IDENTIFIER : k_IDENTIFIER ≠ k_SYMBOL) (d_STRING : k_STRING ≠ k_SYMBOL) (d_NUMBER : k_NUMBER ≠ k_SYMBOL) (d_DATE_TIME : k_DATE_TIME ≠ k_SYMBOL) (d_NAMED_PARAMETER : k_NAMED_PARAMETER ≠ k_SYMBOL) (d_POSITIONAL_PARAMETER : k_POSITIONAL_PARAMETER ≠ k_SYMBOL) (d_END : k_END ≠ k_SYMBOL) : ¬ own_kd k_IDENTIFIER k_STRING k_NUMBER k_DATE_TIME k_NAMED_PARAMETER k_POSITIONAL_PARAMETER k_SYMBOL k_END x = k_SYMBOL := by
  rcases h with rfl | rfl | rfl | rfl | rfl | rfl | rfl | rfl <;> first | exact absurd rfl g | simp [own_kd, d_IDENTIFIER, d_STRING, d_NUMBER, d_DATE_TIME, d_NAMED_PARAMETER, d_POSITIONAL_PARAMETER, d_END]
theorem own_slots {Z : State} {a0 : Array Value} (hw : ∀ d ∈ tables_1, d.before a0 Z = true) : Jvm.RoadKit.slotOf Z "java/lang/String" "coder" "B" ≠ Jvm.RoadKit.slotOf Z "java/lang/String" "value" "[B" := slot_ne (C := "java/lang/String") (a0 := a0) (Or.inr (hw _ (List.mem_of_getElem? (i := 29) rfl))) (Or.inr (hw _ (List.mem_of_getElem? (i := 27) rfl))) (by decide) (t := .byte) (t' := .array .byte) (by decide) (by decide)
theorem own_nb (x : Int32) : nar .byte x.toInt8.toInt32 = x.toInt8.toInt32 := by simp [nar]
theorem own_atoms0 {Z : State} {a0 : Array Value} (hw : ∀ d ∈ tables_1, d.before a0 Z = true) : ∀ a ∈ Bundle.stringAtoms, a.before a0 Z = true := fun d hd => hw d ((by decide +kernel : ∀ d ∈ Bundle.stringAtoms, d ∈ tables_1) d hd)
def Cache (Z : State) (h : Heap) (ac : Addr) : Prop := ∃ ce : Cell, Arr Z h ac ce (.object "java/lang/Integer") ∧ ∀ x : Int32, ¬ x < (-128 : Int32) → ¬ (127 : Int32) < x → ∃ b, ¬ ((x + 128) < 0 ∨ ce.slots.size ≤ (x + 128).toNatClampNeg) ∧ ce.slots[(x + 128).toNatClampNeg]? = some (.ref b) ∧ Isa Z h b "java/lang/Integer" ∧ Fld Z h b "java/lang/Integer" "value" "I" (.int x)
theorem Cache.ext {Z : State} {h h' : Heap} {ac : Addr} (F : Cache Z h ac) (E : Ext h h') : Cache Z h' ac := by
  obtain ⟨ce, A, H⟩ := F
  refine ⟨ce, A.ext E, fun x h1 h2 => ?_⟩
  obtain ⟨b, q1, q2, q3, q4⟩ := H x h1 h2
  exact ⟨b, q1, q2, q3.ext E, q4.ext E⟩
theorem cache_start {s : State} {a0 a1 : Array Value} (hsets : ∀ d ∈ Jvm.Free.IntBox.intClinit, d.before a0 s = true) (wl : (Jvm.Cond.laysFinal "java/lang/Integer" "java/lang/Integer" "value" "I").before a1 s = true) : ∃ ac, Sta s s.heap "java/lang/Integer$IntegerCache" "high" "I" (.int 127) ∧ Sta s s.heap "java/lang/Integer$IntegerCache" "cache" "[Ljava/lang/Integer;" (.ref ac) ∧ Cache s s.heap ac := by
  obtain ⟨c, k, cf, kf, i, f, h1, h2, h3, h4, -, h6, h6', -⟩ := Cond.laysFinal_spec wl
  cases h1.symm.trans h6'
  obtain ⟨g, hg, -, p2, ⟨kV, iV, p3⟩, p4, ⟨cf1, k1, i1, p5, p6, p7⟩, p8, ⟨cf2, k2, i2, p9, p10, p11⟩, p12, p13, p14, p15, p16, p17, p18, p19, p20⟩ := Jvm.Free.IntBox.statics_fwd (args := a0) (s := s) 0 (((conj_holds (args := a0) (first := s) (o := none) (s := s) (idx := []) _ _).mpr ⟨rfl, hsets⟩ : (conj .tt Jvm.Free.IntBox.intClinit).holds a0 s none s [] = true)) h1 h3 h4
  have hvm : g.cellS.vm.isStatics = true := by
    obtain ⟨c9, k9, i9, f9, st9, cell9, w1, w2, w3, w4, w5, w6, -⟩ := Cond.laysStatic_spec (hsets (.laysStatic Jvm.Free.IntBox.ICC "high" "I") (by simp [Jvm.Free.IntBox.intClinit]))
    cases p5.symm.trans w2
    cases p7.symm.trans w4
    cases p13.symm.trans w5
    exact w6
  refine ⟨g.arr, ⟨cf1, i1, k1, g.fHi, g.st, g.cellS, p5, p8, p6, p7, p13, hvm, by rw [p15, hg]⟩, ⟨cf2, i2, k2, g.fCa, g.st, g.cellS, p9, p12, p10, p11, p13, hvm, p16⟩, g.cellA, ⟨p17, p19, p18⟩, fun x hx1 hx2 => ?_⟩
  obtain ⟨box, cB, q1, q2, q3, q4, q5, q6, q7⟩ := p20 x hx1 (by rw [hg]; exact hx2)
  obtain ⟨kB, r1, -⟩ := Vm.findClass_spec h1
  exact ⟨box, q1, q2, ⟨cB, kB, q3, by rw [q4]; exact h1, by rw [q4]; exact r1, q6⟩, ⟨cB, _, kV, iV, f, q3, p3, h4, q5, q6, by rw [q4]; exact Vm.assignable_self _ _, q7⟩⟩
theorem own_weq0 {Z : State} {a0 : Array Value} (hw : ∀ d ∈ tables_1, d.before a0 Z = true) : ∀ d ∈ StrChars.Road.wordsEq, d.before a0 Z = true := fun d hd => hw d ((by decide +kernel : ∀ d ∈ StrChars.Road.wordsEq, d ∈ tables_1) d hd)
theorem own_ef (m : MethodId) (a k s : Addr) (ov : Value) (x : Int32) (hov : ov.isRef = true) : entryFrame m #[.ref a, .ref k, .ref s, ov, .int x] 5 = mkF m 0 #[.val (.ref a), .val (.ref k), .val (.ref s), .val ov, .val (.int x)] [] := by
  rcases ref_cases hov with rfl | ⟨z, rfl⟩ <;> first | (simp [entryFrame, mkF, argsToLocals, Value.category]; done) | rfl
theorem own_nro {ov : Value} (hov : ov.isRef = true) : narrow (.object "java/lang/Object") ov = ov := by rcases ref_cases hov with rfl | ⟨z, rfl⟩ <;> rfl
theorem own_fto {ov : Value} (hov : ov.isRef = true) : fits (.object "java/lang/Object") ov = true := by rcases ref_cases hov with rfl | ⟨z, rfl⟩ <;> rfl
theorem own_sl {ov : Value} (hov : ov.isRef = true) (a b c d e f g h i j k l m : Int32) (s t : Addr) : storeLocals #[.val (.int a), .val (.int b), .val (.int c), .val (.int d), .val (.int e), .val (.int f), .val (.int g), .val (.int h), .val (.int i), .val (.int j), .val (.int k), .val (.int l), .val (.int m), .val (.ref s), .val (.ref t), .unset, .unset, .unset] 15 ov = some #[.val (.int a), .val (.int b), .val (.int c), .val (.int d), .val (.int e), .val (.int f), .val (.int g), .val (.int h), .val (.int i), .val (.int j), .val (.int k), .val (.int l), .val (.int m), .val (.ref s), .val (.ref t), .val ov, .unset, .unset] := by rcases ref_cases hov with rfl | ⟨z, rfl⟩ <;> rfl
theorem own_ts01 {Z : State} {a0 : Array Value} (hw : ∀ d ∈ tables_1, d.before a0 Z = true) : Jvm.RoadKit.slotOf Z "com/example/mirror_tables/mirrortables/query/JpqlLexer$Token" "kind" "Lcom/example/mirror_tables/mirrortables/query/JpqlLexer$Kind;" ≠ Jvm.RoadKit.slotOf Z "com/example/mirror_tables/mirrortables/query/JpqlLexer$Token" "text" "Ljava/lang/String;" := slot_ne (C := "com/example/mirror_tables/mirrortables/query/JpqlLexer$Token") (a0 := a0) (Or.inr (hw _ (List.mem_of_getElem? (i := 52) rfl))) (Or.inr (hw _ (List.mem_of_getElem? (i := 54) rfl))) (by decide) (t := .object "com/example/mirror_tables/mirrortables/query/JpqlLexer$Kind") (t' := .object "java/lang/String") (by decide) (by decide)
theorem own_ts02 {Z : State} {a0 : Array Value} (hw : ∀ d ∈ tables_1, d.before a0 Z = true) : Jvm.RoadKit.slotOf Z "com/example/mirror_tables/mirrortables/query/JpqlLexer$Token" "kind" "Lcom/example/mirror_tables/mirrortables/query/JpqlLexer$Kind;" ≠ Jvm.RoadKit.slotOf Z "com/example/mirror_tables/mirrortables/query/JpqlLexer$Token" "value" "Ljava/lang/Object;" := slot_ne (C := "com/example/mirror_tables/mirrortables/query/JpqlLexer$Token") (a0 := a0) (Or.inr (hw _ (List.mem_of_getElem? (i := 52) rfl))) (Or.inr (hw _ (List.mem_of_getElem? (i := 56) rfl))) (by decide) (t := .object "com/example/mirror_tables/mirrortables/query/JpqlLexer$Kind") (t' := .object "java/lang/Object") (by decide) (by decide)
theorem own_ts03 {Z : State} {a0 : Array Value} (hw : ∀ d ∈ tables_1, d.before a0 Z = true) : Jvm.RoadKit.slotOf Z "com/example/mirror_tables/mirrortables/query/JpqlLexer$Token" "kind" "Lcom/example/mirror_tables/mirrortables/query/JpqlLexer$Kind;" ≠ Jvm.RoadKit.slotOf Z "com/example/mirror_tables/mirrortables/query/JpqlLexer$Token" "position" "I" := slot_ne (C := "com/example/mirror_tables/mirrortables/query/JpqlLexer$Token") (a0 := a0) (Or.inr (hw _ (List.mem_of_getElem? (i := 52) rfl))) (Or.inr (hw _ (List.mem_of_getElem? (i := 58) rfl))) (by decide) (t := .object "com/example/mirror_tables/mirrortables/query/JpqlLexer$Kind") (t' := .int) (by decide) (by decide)
theorem own_ts10 {Z : State} {a0 : Array Value} (hw : ∀ d ∈ tables_1, d.before a0 Z = true) : Jvm.RoadKit.slotOf Z "com/example/mirror_tables/mirrortables/query/JpqlLexer$Token" "text" "Ljava/lang/String;" ≠ Jvm.RoadKit.slotOf Z "com/example/mirror_tables/mirrortables/query/JpqlLexer$Token" "kind" "Lcom/example/mirror_tables/mirrortables/query/JpqlLexer$Kind;" := slot_ne (C := "com/example/mirror_tables/mirrortables/query/JpqlLexer$Token") (a0 := a0) (Or.inr (hw _ (List.mem_of_getElem? (i := 54) rfl))) (Or.inr (hw _ (List.mem_of_getElem? (i := 52) rfl))) (by decide) (t := .object "java/lang/String") (t' := .object "com/example/mirror_tables/mirrortables/query/JpqlLexer$Kind") (by decide) (by decide)
theorem own_ts12 {Z : State} {a0 : Array Value} (hw : ∀ d ∈ tables_1, d.before a0 Z = true) : Jvm.RoadKit.slotOf Z "com/example/mirror_tables/mirrortables/query/JpqlLexer$Token" "text" "Ljava/lang/String;" ≠ Jvm.RoadKit.slotOf Z "com/example/mirror_tables/mirrortables/query/JpqlLexer$Token" "value" "Ljava/lang/Object;" := slot_ne (C := "com/example/mirror_tables/mirrortables/query/JpqlLexer$Token") (a0 := a0) (Or.inr (hw _ (List.mem_of_getElem? (i := 54) rfl))) (Or.inr (hw _ (List.mem_of_getElem? (i := 56) rfl))) (by decide) (t := .object "java/lang/String") (t' := .object "java/lang/Object") (by decide) (by decide)
theorem own_ts13 {Z : State} {a0 : Array Value} (hw : ∀ d ∈ tables_1, d.before a0 Z = true) : Jvm.RoadKit.slotOf Z "com/example/mirror_tables/mirrortables/query/JpqlLexer$Token" "text" "Ljava/lang/String;" ≠ Jvm.RoadKit.slotOf Z "com/example/mirror_tables/mirrortables/query/JpqlLexer$Token" "position" "I" := slot_ne (C := "com/example/mirror_tables/mirrortables/query/JpqlLexer$Token") (a0 := a0) (Or.inr (hw _ (List.mem_of_getElem? (i := 54) rfl))) (Or.inr (hw _ (List.mem_of_getElem? (i := 58) rfl))) (by decide) (t := .object "java/lang/String") (t' := .int) (by decide) (by decide)
theorem own_ts20 {Z : State} {a0 : Array Value} (hw : ∀ d ∈ tables_1, d.before a0 Z = true) : Jvm.RoadKit.slotOf Z "com/example/mirror_tables/mirrortables/query/JpqlLexer$Token" "value" "Ljava/lang/Object;" ≠ Jvm.RoadKit.slotOf Z "com/example/mirror_tables/mirrortables/query/JpqlLexer$Token" "kind" "Lcom/example/mirror_tables/mirrortables/query/JpqlLexer$Kind;" := slot_ne (C := "com/example/mirror_tables/mirrortables/query/JpqlLexer$Token") (a0 := a0) (Or.inr (hw _ (List.mem_of_getElem? (i := 56) rfl))) (Or.inr (hw _ (List.mem_of_getElem? (i := 52) rfl))) (by decide) (t := .object "java/lang/Object") (t' := .object "com/example/mirror_tables/mirrortables/query/JpqlLexer$Kind") (by decide) (by decide)
theorem own_ts21 {Z : State} {a0 : Array Value} (hw : ∀ d ∈ tables_1, d.before a0 Z = true) : Jvm.RoadKit.slotOf Z "com/example/mirror_tables/mirrortables/query/JpqlLexer$Token" "value" "Ljava/lang/Object;" ≠ Jvm.RoadKit.slotOf Z "com/example/mirror_tables/mirrortables/query/JpqlLexer$Token" "text" "Ljava/lang/String;" := slot_ne (C := "com/example/mirror_tables/mirrortables/query/JpqlLexer$Token") (a0 := a0) (Or.inr (hw _ (List.mem_of_getElem? (i := 56) rfl))) (Or.inr (hw _ (List.mem_of_getElem? (i := 54) rfl))) (by decide) (t := .object "java/lang/Object") (t' := .object "java/lang/String") (by decide) (by decide)
theorem own_ts23 {Z : State} {a0 : Array Value} (hw : ∀ d ∈ tables_1, d.before a0 Z = true) : Jvm.RoadKit.slotOf Z "com/example/mirror_tables/mirrortables/query/JpqlLexer$Token" "value" "Ljava/lang/Object;" ≠ Jvm.RoadKit.slotOf Z "com/example/mirror_tables/mirrortables/query/JpqlLexer$Token" "position" "I" := slot_ne (C := "com/example/mirror_tables/mirrortables/query/JpqlLexer$Token") (a0 := a0) (Or.inr (hw _ (List.mem_of_getElem? (i := 56) rfl))) (Or.inr (hw _ (List.mem_of_getElem? (i := 58) rfl))) (by decide) (t := .object "java/lang/Object") (t' := .int) (by decide) (by decide)
theorem own_ts30 {Z : State} {a0 : Array Value} (hw : ∀ d ∈ tables_1, d.before a0 Z = true) : Jvm.RoadKit.slotOf Z "com/example/mirror_tables/mirrortables/query/JpqlLexer$Token" "position" "I" ≠ Jvm.RoadKit.slotOf Z "com/example/mirror_tables/mirrortables/query/JpqlLexer$Token" "kind" "Lcom/example/mirror_tables/mirrortables/query/JpqlLexer$Kind;" := slot_ne (C := "com/example/mirror_tables/mirrortables/query/JpqlLexer$Token") (a0 := a0) (Or.inr (hw _ (List.mem_of_getElem? (i := 58) rfl))) (Or.inr (hw _ (List.mem_of_getElem? (i := 52) rfl))) (by decide) (t := .int) (t' := .object "com/example/mirror_tables/mirrortables/query/JpqlLexer$Kind") (by decide) (by decide)
theorem own_ts31 {Z : State} {a0 : Array Value} (hw : ∀ d ∈ tables_1, d.before a0 Z = true) : Jvm.RoadKit.slotOf Z "com/example/mirror_tables/mirrortables/query/JpqlLexer$Token" "position" "I" ≠ Jvm.RoadKit.slotOf Z "com/example/mirror_tables/mirrortables/query/JpqlLexer$Token" "text" "Ljava/lang/String;" := slot_ne (C := "com/example/mirror_tables/mirrortables/query/JpqlLexer$Token") (a0 := a0) (Or.inr (hw _ (List.mem_of_getElem? (i := 58) rfl))) (Or.inr (hw _ (List.mem_of_getElem? (i := 54) rfl))) (by decide) (t := .int) (t' := .object "java/lang/String") (by decide) (by decide)
theorem own_ts32 {Z : State} {a0 : Array Value} (hw : ∀ d ∈ tables_1, d.before a0 Z = true) : Jvm.RoadKit.slotOf Z "com/example/mirror_tables/mirrortables/query/JpqlLexer$Token" "position" "I" ≠ Jvm.RoadKit.slotOf Z "com/example/mirror_tables/mirrortables/query/JpqlLexer$Token" "value" "Ljava/lang/Object;" := slot_ne (C := "com/example/mirror_tables/mirrortables/query/JpqlLexer$Token") (a0 := a0) (Or.inr (hw _ (List.mem_of_getElem? (i := 58) rfl))) (Or.inr (hw _ (List.mem_of_getElem? (i := 56) rfl))) (by decide) (t := .int) (t' := .object "java/lang/Object") (by decide) (by decide)
set_option maxRecDepth 65536 in
set_option maxHeartbeats 40000000 in
theorem c_can (l : Launch) (Z : State) (a0 : Array Value) (hw : ∀ d ∈ tables_1, d.before a0 Z = true) (xs : List Addr) (n0 : Nat) (h : Heap) (Z0 : n0 ≤ h.size) (x : Int32) (hx : ¬ (255 : Int32) < x) :
    Ctr l Z consts_1 xs n0 (⟨"java/lang/StringLatin1", "canEncode", "(C)Z"⟩ : MethodName) jdk_43_method_3_code 1 (some .boolean) [] ({ frames := 0, cells := 0, slots := 0, locals := 0 } : Room) #[(.int x)] h (fun v h' => v = some (.int 1) ∧ h = h') := by
  refine Ctr.body pn0 ?_
  intro p e s m below meth c K
  refine Go.entry (f' := (mkF m 0 #[.val (.int x)] [])) (by first | (simp [entryFrame, mkF, argsToLocals, Value.category]; done) | rfl) ?_
  refine Go.iloadN K (q := 1) rfl d3_0 rfl ?_
  refine Go.sipush K (q := 4) rfl (v := (255 : Int32)) (by decide) d3_1 ?_
  refine Go.icmpN K (q := 7) rfl d3_4 (show ¬ (255 : Int32) < x from hx) ?_
  refine Go.iconst K (q := 8) rfl (v := (1 : Int32)) (by decide) d3_7 ?_
  refine Go.goto K (q := 12) (by decide) (by decide) d3_8 ?_
  exact Go.retN K (by simp) d3_12 (by decide) (by decide) (fun _ q => q) (⟨rfl, rfl⟩)
set_option maxRecDepth 65536 in
set_option maxHeartbeats 40000000 in
theorem c_tob (l : Launch) (Z : State) (a0 : Array Value) (hw : ∀ d ∈ tables_1, d.before a0 Z = true) (xs : List Addr) (n0 : Nat) (h : Heap) (Z0 : n0 ≤ h.size) (x : Int32) :
    Ctr l Z consts_1 xs n0 (⟨"java/lang/StringLatin1", "toBytes", "(C)[B"⟩ : MethodName) jdk_43_method_46_code 1 (some (.array .byte)) [] ({ frames := 0, cells := 1, slots := 1, locals := 0 } : Room) #[(.int x)] h (fun v h' => ∃ (t : Addr) (k : ClassId), v = some (.ref t) ∧ Ext h h' ∧ h.size ≤ t ∧ Arv Z h' t k .byte (1 : Int32) [.int (nar .byte x.toInt8.toInt32)] (.int (0 : Int32))) := by
  refine Ctr.body pn1 ?_
  intro p e s m below meth c K
  refine Go.entry (f' := (mkF m 0 #[.val (.int x)] [])) (by first | (simp [entryFrame, mkF, argsToLocals, Value.category]; done) | rfl) ?_
  have E0 := Ext.refl h
  refine Go.iconst K (q := 1) rfl (v := (1 : Int32)) (by decide) d4_0 ?_
  refine Go.newarr K (q := 3) rfl (hw _ (List.mem_of_getElem? (i := 18) rfl)) d4_1 (by decide) (cap := 1) (by decide) (by decide) (cells' := 1) (slots' := 1) rfl rfl (by decide) (by decide) ?_
  intro h2 a1 k_a1 g_a1 N_a1 V_a1
  have V_a1 : Arv Z h2 a1 k_a1 .byte (1 : Int32) [(.int (0 : Int32))] (.int (0 : Int32)) := V_a1
  have ge_E0_a1 : h.size ≤ a1 := Nat.le_trans E0.1 (Nat.le_of_eq g_a1.symm)
  have E0 := Ext.trans E0 N_a1
  have n_a1 : n0 ≤ a1 := Nat.le_trans Z0 ge_E0_a1
  refine Go.dup K (q := 4) rfl d4_3 rfl ?_
  refine Go.iconst K (q := 5) rfl (v := (0 : Int32)) (by decide) d4_4 ?_
  refine Go.iloadN K (q := 6) rfl d4_5 rfl ?_
  refine Go.i2b K (q := 7) rfl d4_6 ?_
  refine Go.bastore K (q := 8) rfl V_a1 (i := 0) d4_7 ⟨by decide, by decide⟩ rfl (Nat.le_of_ble_eq_true rfl) n_a1 List.mem_cons_self ?_
  intro h3 W4 V_a1
  have E0 := Ext.wr E0 W4 ge_E0_a1
  exact Go.retA K rfl rfl d4_8 (by decide) (by decide) (fun _ q => (List.mem_cons_of_mem _ q)) (⟨a1, k_a1, rfl, E0, ge_E0_a1, V_a1⟩)
set_option maxRecDepth 65536 in
set_option maxHeartbeats 40000000 in
theorem c_ibb (l : Launch) (Z : State) (a0 : Array Value) (hw : ∀ d ∈ tables_1, d.before a0 Z = true) (xs : List Addr) (n0 : Nat) (h : Heap) (Z0 : n0 ≤ h.size) (a t : Addr) (v0 c0 : Value) (hax : a ∈ xs) (ga : n0 ≤ a) (E : Exa Z h a "java/lang/String") (Fv : Fld Z h a "java/lang/String" "value" "[B" v0) (Fc : Fld Z h a "java/lang/String" "coder" "B" c0) :
    Ctr l Z consts_1 xs n0 (⟨"java/lang/String", "<init>", "([BB)V"⟩ : MethodName) jdk_42_method_151_code 3 none [] ({ frames := 1, cells := 0, slots := 0, locals := 12 } : Room) #[(.ref a), (.ref t), (.int (0 : Int32))] h (fun v h' => v = none ∧ Keep h h' [a] ∧ Exa Z h' a "java/lang/String" ∧ Fld Z h' a "java/lang/String" "value" "[B" (.ref t) ∧ Fld Z h' a "java/lang/String" "coder" "B" (.int (0 : Int32))) := by
  refine Ctr.body pn2 ?_
  intro p e s m below meth c K
  refine Go.entry (f' := (mkF m 0 #[.val (.ref a), .val (.ref t), .val (.int (0 : Int32))] [])) (by first | (simp [entryFrame, mkF, argsToLocals, Value.category]; done) | rfl) ?_
  have K0 := Keep.refl h [a]
  refine Go.aloadN K (q := 1) rfl d5_0 rfl rfl ?_
  refine Go.initO K (q := 4) rfl (hw _ (List.mem_of_getElem? (i := 23) rfl)) (hw _ (List.mem_of_getElem? (i := 24) rfl)) (hw _ (List.mem_of_getElem? (i := 25) rfl)) rfl d5_1 (by decide) (W := 0) (Nat.le_of_eq rfl) (by decide) ?_
  refine Go.aloadN K (q := 5) rfl d5_4 rfl rfl ?_
  refine Go.aloadN K (q := 6) rfl d5_5 rfl rfl ?_
  refine Go.putF K (q := 9) rfl (hw _ (List.mem_of_getElem? (i := 26) rfl)) Via.refl Fv E (Or.inr ⟨(hw _ (List.mem_of_getElem? (i := 27) rfl)), rfl, rfl⟩) (hw _ (List.mem_of_getElem? (i := 14) rfl)) (ty := (.array .byte)) (by decide) rfl rfl d5_6 ga hax ?_
  intro h1 W2 Fv E
  have Fc := Fc.other W2 (Or.inr (own_slots hw))
  have K0 := K0.wr W2 (Or.inl List.mem_cons_self)
  refine Go.aloadN K (q := 10) rfl d5_9 rfl rfl ?_
  refine Go.iloadN K (q := 11) rfl d5_10 rfl ?_
  refine Go.putF K (q := 14) rfl (hw _ (List.mem_of_getElem? (i := 28) rfl)) Via.refl Fc E (Or.inr ⟨(hw _ (List.mem_of_getElem? (i := 29) rfl)), rfl, rfl⟩) (hw _ (List.mem_of_getElem? (i := 14) rfl)) (ty := .byte) (by decide) rfl rfl d5_11 ga hax ?_
  intro h3 W4 Fc E
  have Fv := Fv.other W4 (Or.inr (Ne.symm (own_slots hw)))
  have K0 := K0.wr W4 (Or.inl List.mem_cons_self)
  exact Go.retV K d5_14 (by decide) (by decide) (fun _ q => q) (⟨rfl, K0, E, Fv, Fc⟩)
set_option maxRecDepth 65536 in
set_option maxHeartbeats 40000000 in
theorem c_val (l : Launch) (Z : State) (a0 : Array Value) (hw : ∀ d ∈ tables_1, d.before a0 Z = true) (xs : List Addr) (n0 : Nat) (h : Heap) (Z0 : n0 ≤ h.size) (x : Int32) (hx : ¬ x < 0 ∧ ¬ (255 : Int32) < x) (z : Int32) (Sa : Sta Z h "java/lang/String" "COMPACT_STRINGS" "Z" (.int z)) (hz : ¬ z = 0) :
    Ctr l Z consts_1 xs n0 (⟨"java/lang/String", "valueOf", "(C)Ljava/lang/String;"⟩ : MethodName) jdk_42_method_139_code 1 (some (.object "java/lang/String")) [] ({ frames := 2, cells := 2, slots := 5, locals := 27 } : Room) #[(.int x)] h (fun v h' => ∃ a, v = some (.ref a) ∧ Ext h h' ∧ Str Z h' a [x]) := by
  refine Ctr.body pn3 ?_
  intro p e s m below meth c K
  refine Go.entry (f' := (mkF m 0 #[.val (.int x)] [])) (by first | (simp [entryFrame, mkF, argsToLocals, Value.category]; done) | rfl) ?_
  have E0 := Ext.refl h
  refine Go.getS K (q := 3) rfl (hw _ (List.mem_of_getElem? (i := 8) rfl)) Via.refl (Sa) d2_0 ?_
  refine Go.ifN K (q := 6) rfl d2_3 (show ¬ z = (0 : Int32) from hz) ?_
  refine Go.iloadN K (q := 7) rfl d2_6 rfl ?_
  refine Go.cS K (q := 10) rfl (y := (⟨"java/lang/StringLatin1", "canEncode", "(C)Z"⟩ : MethodName)) (c_can l Z a0 hw xs n0 h Z0 x hx.2) (hw _ (List.mem_of_getElem? (i := 9) rfl)) (hw _ (List.mem_of_getElem? (i := 10) rfl)) (hw _ (List.mem_of_getElem? (i := 11) rfl)) (hw _ (List.mem_of_getElem? (i := 12) rfl)) (by decide) pd0 (argsL := [(.int x)]) (rest := []) rfl rfl rfl rfl (W := 0) (Nat.le_of_eq rfl) (by decide) (by decide) d2_7 (cells' := 0) (slots' := 0) rfl rfl (by decide) (by decide) ?_
  intro r2 h1 hQ sz_h1
  obtain ⟨rfl, rfl⟩ := hQ
  show Go p l e _ s m _ below meth c _ _ _ _ _ _ _ _ _ h 0 0 (mkF m 10 #[.val (.int x)] [(.int (1 : Int32))])
  refine Go.ifN K (q := 13) rfl d2_10 (show ¬ (1 : Int32) = (0 : Int32) from (by decide)) ?_
  refine Go.new K (q := 16) rfl (hw _ (List.mem_of_getElem? (i := 13) rfl)) (hw _ (List.mem_of_getElem? (i := 14) rfl)) (hw _ (List.mem_of_getElem? (i := 6) rfl)) d2_13 (cells' := 1) (slots' := 4) rfl rfl (by decide) (by decide) ?_
  intro h4 a3 g_a3 N_a3 X_a3 D_a3
  have ge_E0_a3 : h.size ≤ a3 := Nat.le_trans E0.1 (Nat.le_of_eq g_a3.symm)
  have E0 := Ext.trans E0 N_a3
  have Fv_a3 : Fld Z h4 a3 "java/lang/String" "value" "[B" .null := D_a3 (Or.inr (hw _ (List.mem_of_getElem? (i := 27) rfl))) (ty := .array .byte) (by decide)
  have Fc_a3 : Fld Z h4 a3 "java/lang/String" "coder" "B" (.int (0 : Int32)) := D_a3 (Or.inr (hw _ (List.mem_of_getElem? (i := 29) rfl))) (ty := .byte) (by decide)
  have n_a3 : n0 ≤ a3 := Nat.le_trans Z0 ge_E0_a3
  refine Go.dup K (q := 17) rfl d2_16 rfl ?_
  refine Go.iloadN K (q := 18) rfl d2_17 rfl ?_
  refine Go.cS K (q := 21) rfl (y := (⟨"java/lang/StringLatin1", "toBytes", "(C)[B"⟩ : MethodName)) (c_tob l Z a0 hw (a3 :: xs) n0 h4 (Nat.le_trans Z0 E0.1) x) (hw _ (List.mem_of_getElem? (i := 15) rfl)) (hw _ (List.mem_of_getElem? (i := 16) rfl)) (hw _ (List.mem_of_getElem? (i := 11) rfl)) (hw _ (List.mem_of_getElem? (i := 17) rfl)) (by decide) pd1 (argsL := [(.int x)]) (rest := [(.ref a3), (.ref a3)]) rfl rfl rfl rfl (W := 2) (Nat.le_of_eq rfl) (by decide) (by decide) d2_18 (cells' := 2) (slots' := 5) rfl rfl (by decide) (by decide) ?_
  intro r6 h5 hQ sz_h5
  obtain ⟨t, kt, rfl, N_t, g_t, V_t⟩ := hQ
  have E0 := Ext.trans E0 N_t
  show Go p l e _ s m _ below meth c _ _ _ _ _ _ _ _ _ h5 2 5 (mkF m 21 #[.val (.int x)] [(.ref t), (.ref a3), (.ref a3)])
  have X_a3 := X_a3.ext N_t
  have Fv_a3 := Fv_a3.ext N_t
  have Fc_a3 := Fc_a3.ext N_t
  have ne_t : t ≠ a3 := Nat.ne_of_gt (Nat.lt_of_lt_of_le (show a3 < h4.size from D_a3 (Or.inr (hw _ (List.mem_of_getElem? (i := 29) rfl))) (ty := .byte) (by decide) |>.lt) g_t)
  refine Go.iconst K (q := 22) rfl (v := (0 : Int32)) (by decide) d2_21 ?_
  refine Go.cI K (q := 25) rfl (y := (⟨"java/lang/String", "<init>", "([BB)V"⟩ : MethodName)) (c_ibb l Z a0 hw (a3 :: xs) n0 h5 (Nat.le_trans Z0 E0.1) a3 t _ _ List.mem_cons_self n_a3 X_a3 Fv_a3 Fc_a3) rfl (hw _ (List.mem_of_getElem? (i := 19) rfl)) (hw _ (List.mem_of_getElem? (i := 20) rfl)) (hw _ (List.mem_of_getElem? (i := 6) rfl)) (hw _ (List.mem_of_getElem? (i := 22) rfl)) (by decide) (a := a3) pd2 (argsL := [(.ref t), (.int (0 : Int32))]) (rest := [(.ref a3)]) rfl rfl rfl rfl (W := 1) (Nat.le_of_eq rfl) (by decide) (by decide) d2_22 (cells' := 2) (slots' := 5) rfl rfl (by decide) (by decide) ?_
  intro r8 h7 hQ sz_h7
  obtain ⟨rfl, K_x, X_x, Fv_x, Fc_x⟩ := hQ
  have E0 := Ext.keep E0 K_x (allS ge_E0_a3 all0)
  show Go p l e _ s m _ below meth c _ _ _ _ _ _ _ _ _ h7 2 5 (mkF m 25 #[.val (.int x)] [(.ref a3)])
  have V_t := V_t.keep K_x (ninS ne_t nin0)
  exact Go.retA K rfl rfl d2_25 (by decide) (by decide) (fun _ q => (List.mem_cons_of_mem _ q)) (⟨a3, rfl, E0, t, kt, 0, 1, _, X_x, Fv_x, Fc_x, V_t, Or.inl ⟨rfl, rfl, congrArg (fun z => [Value.int z]) (own_nb x), by intro c hc; cases List.mem_singleton.mp hc; exact hx.2⟩, up16 (by intro c hc; cases List.mem_singleton.mp hc; exact hx), by simp⟩)
set_option maxRecDepth 65536 in
set_option maxHeartbeats 40000000 in
theorem c_num (l : Launch) (Z : State) (a0 : Array Value) (hw : ∀ d ∈ tables_1, d.before a0 Z = true) (xs : List Addr) (n0 : Nat) (h : Heap) (Z0 : n0 ≤ h.size) (a : Addr) :
    Ctr l Z consts_1 xs n0 (⟨"java/lang/Number", "<init>", "()V"⟩ : MethodName) jdk_18_method_1_code 1 none [] ({ frames := 1, cells := 0, slots := 0, locals := 12 } : Room) #[(.ref a)] h (fun v h' => v = none ∧ h = h') := by
  refine Ctr.body pn4 ?_
  intro p e s m below meth c K
  refine Go.entry (f' := (mkF m 0 #[.val (.ref a)] [])) (by first | (simp [entryFrame, mkF, argsToLocals, Value.category]; done) | rfl) ?_
  refine Go.aloadN K (q := 1) rfl d18_0 rfl rfl ?_
  refine Go.initO K (q := 4) rfl (hw _ (List.mem_of_getElem? (i := 111) rfl)) (hw _ (List.mem_of_getElem? (i := 24) rfl)) (hw _ (List.mem_of_getElem? (i := 25) rfl)) rfl d18_1 (by decide) (W := 0) (Nat.le_of_eq rfl) (by decide) ?_
  exact Go.retV K d18_4 (by decide) (by decide) (fun _ q => q) (⟨rfl, rfl⟩)
set_option maxRecDepth 65536 in
set_option maxHeartbeats 40000000 in
theorem c_ii (l : Launch) (Z : State) (a0 : Array Value) (hw : ∀ d ∈ tables_1, d.before a0 Z = true) (xs : List Addr) (n0 : Nat) (h : Heap) (Z0 : n0 ≤ h.size) (a : Addr) (x : Int32) (v0 : Value) (hax : a ∈ xs) (ga : n0 ≤ a) (E : Exa Z h a "java/lang/Integer") (F : Fld Z h a "java/lang/Integer" "value" "I" v0) :
    Ctr l Z consts_1 xs n0 (⟨"java/lang/Integer", "<init>", "(I)V"⟩ : MethodName) jdk_33_method_23_code 2 none [] ({ frames := 2, cells := 0, slots := 0, locals := 24 } : Room) #[(.ref a), (.int x)] h (fun v h' => v = none ∧ Keep h h' [a] ∧ Exa Z h' a "java/lang/Integer" ∧ Fld Z h' a "java/lang/Integer" "value" "I" (.int x)) := by
  refine Ctr.body pn5 ?_
  intro p e s m below meth c K
  refine Go.entry (f' := (mkF m 0 #[.val (.ref a), .val (.int x)] [])) (by first | (simp [entryFrame, mkF, argsToLocals, Value.category]; done) | rfl) ?_
  refine Go.aloadN K (q := 1) rfl d17_0 rfl rfl ?_
  have K0 := Keep.refl h [a]
  refine Go.cI K (q := 4) rfl (y := (⟨"java/lang/Number", "<init>", "()V"⟩ : MethodName)) (c_num l Z a0 hw xs n0 h Z0 a) rfl (hw _ (List.mem_of_getElem? (i := 105) rfl)) (hw _ (List.mem_of_getElem? (i := 106) rfl)) (hw _ (List.mem_of_getElem? (i := 109) rfl)) (hw _ (List.mem_of_getElem? (i := 110) rfl)) (by decide) (a := a) pd3 (argsL := []) (rest := []) rfl rfl rfl rfl (W := 0) (Nat.le_of_eq rfl) (by decide) (by decide) d17_1 (cells' := 0) (slots' := 0) rfl rfl (by decide) (by decide) ?_
  intro r2 h1 hQ sz_h1
  obtain ⟨rfl, rfl⟩ := hQ
  show Go p l e _ s m _ below meth c _ _ _ _ _ _ _ _ _ h 0 0 (mkF m 4 #[.val (.ref a), .val (.int x)] [])
  refine Go.aloadN K (q := 5) rfl d17_4 rfl rfl ?_
  refine Go.iloadN K (q := 6) rfl d17_5 rfl ?_
  refine Go.putF K (q := 9) rfl (hw _ (List.mem_of_getElem? (i := 112) rfl)) Via.refl F E (Or.inr ⟨(hw _ (List.mem_of_getElem? (i := 113) rfl)), rfl, rfl⟩) (hw _ (List.mem_of_getElem? (i := 100) rfl)) (ty := .int) (by decide) rfl rfl d17_6 ga hax ?_
  intro h3 W4 F E
  have K0 := K0.wr W4 (Or.inl List.mem_cons_self)
  exact Go.retV K d17_9 (by decide) (by decide) (fun _ q => q) (⟨rfl, K0, E, F⟩)
set_option maxRecDepth 65536 in
set_option maxHeartbeats 40000000 in
theorem c_iv (l : Launch) (Z : State) (a0 : Array Value) (hw : ∀ d ∈ tables_1, d.before a0 Z = true) (xs : List Addr) (n0 : Nat) (h : Heap) (Z0 : n0 ≤ h.size) (x : Int32) (ac : Addr) (SH : Sta Z h "java/lang/Integer$IntegerCache" "high" "I" (.int 127)) (SC : Sta Z h "java/lang/Integer$IntegerCache" "cache" "[Ljava/lang/Integer;" (.ref ac)) (CA : Cache Z h ac) :
    Ctr l Z consts_1 xs n0 (⟨"java/lang/Integer", "valueOf", "(I)Ljava/lang/Integer;"⟩ : MethodName) jdk_33_method_22_code 1 (some (.object "java/lang/Integer")) [] ({ frames := 3, cells := 1, slots := 1, locals := 38 } : Room) #[(.int x)] h (fun v h' => ∃ b, v = some (.ref b) ∧ Ext h h' ∧ Isa Z h' b "java/lang/Integer" ∧ Fld Z h' b "java/lang/Integer" "value" "I" (.int x)) := by
  refine Ctr.body pn6 ?_
  intro p e s m below meth c K
  refine Go.entry (f' := (mkF m 0 #[.val (.int x)] [])) (by first | (simp [entryFrame, mkF, argsToLocals, Value.category]; done) | rfl) ?_
  have E0 := Ext.refl h
  show Go p l e _ s m _ below meth c _ _ _ _ _ _ _ _ _ h 0 0 (mkF m 0 #[.val (.int x)] [])
  have key : Go p l e ({ frames := 3, cells := 1, slots := 1, locals := 38 } : Room) s m #[(.int x)] below meth c Z "java/lang/Integer" consts_1 xs n0 ({ frames := 3, cells := 1, slots := 1, locals := 38 } : Room).cells ({ frames := 3, cells := 1, slots := 1, locals := 38 } : Room).slots (fun v h' => ∃ b, v = some (.ref b) ∧ Ext h h' ∧ Isa Z h' b "java/lang/Integer" ∧ Fld Z h' b "java/lang/Integer" "value" "I" (.int x)) xs h 0 0 (mkF m 23 #[.val (.int x)] []) := by
    refine Go.new K (q := 26) rfl (hw _ (List.mem_of_getElem? (i := 99) rfl)) (hw _ (List.mem_of_getElem? (i := 100) rfl)) (hw _ (List.mem_of_getElem? (i := 90) rfl)) d16_23 (cells' := 1) (slots' := 1) rfl rfl (by decide) (by decide) ?_
    intro h1 bi g_bi N_bi X_bi D_bi
    have ge_E0_bi : h.size ≤ bi := Nat.le_trans E0.1 (Nat.le_of_eq g_bi.symm)
    have E0 := Ext.trans E0 N_bi
    have F_bi : Fld Z h1 bi "java/lang/Integer" "value" "I" (.int (0 : Int32)) := D_bi (Or.inr (hw _ (List.mem_of_getElem? (i := 113) rfl))) (ty := .int) (by decide)
    have n_bi : n0 ≤ bi := Nat.le_trans Z0 ge_E0_bi
    refine Go.dup K (q := 27) rfl d16_26 rfl ?_
    refine Go.iloadN K (q := 28) rfl d16_27 rfl ?_
    refine Go.cI K (q := 31) rfl (y := (⟨"java/lang/Integer", "<init>", "(I)V"⟩ : MethodName)) (c_ii l Z a0 hw (bi :: xs) n0 h1 (Nat.le_trans Z0 E0.1) bi x _ List.mem_cons_self n_bi X_bi F_bi) rfl (hw _ (List.mem_of_getElem? (i := 101) rfl)) (hw _ (List.mem_of_getElem? (i := 102) rfl)) (hw _ (List.mem_of_getElem? (i := 90) rfl)) (hw _ (List.mem_of_getElem? (i := 104) rfl)) (by decide) (a := bi) pd4 (argsL := [(.int x)]) (rest := [(.ref bi)]) rfl rfl rfl rfl (W := 1) (Nat.le_of_eq rfl) (by decide) (by decide) d16_28 (cells' := 1) (slots' := 1) rfl rfl (by decide) (by decide) ?_
    intro r3 h2 hQ sz_h2
    obtain ⟨rfl, K1, X1, F1⟩ := hQ
    have E0 := Ext.keep E0 K1 (allS ge_E0_bi all0)
    show Go p l e _ s m _ below meth c _ _ _ _ _ _ _ _ _ h2 1 1 (mkF m 31 #[.val (.int x)] [(.ref bi)])
    exact Go.retA K rfl rfl d16_31 (by decide) (by decide) (fun _ q => (List.mem_cons_of_mem _ q)) (⟨bi, rfl, E0, isa_of X1, F1⟩)
  refine Go.iloadN K (q := 1) rfl d16_0 rfl ?_
  refine Go.bipush K (q := 3) rfl (v := (-128 : Int32)) (by decide) d16_1 ?_
  refine Go.icmp K (q := 23) (q' := 6) (by decide) (by decide) rfl d16_3 (fun (hc : x < (-128 : Int32)) => ?_) (fun (hc : ¬ x < (-128 : Int32)) => ?_)
  · skip
    exact key
  · skip
    refine Go.iloadN K (q := 7) rfl d16_6 rfl ?_
    refine Go.getS K (q := 10) rfl (hw _ (List.mem_of_getElem? (i := 92) rfl)) Via.refl (SH) d16_7 ?_
    refine Go.icmp K (q := 23) (q' := 13) (by decide) (by decide) rfl d16_10 (fun (hd : (127 : Int32) < x) => ?_) (fun (hd : ¬ (127 : Int32) < x) => ?_)
    · skip
      exact key
    · skip
      refine Go.getS K (q := 16) rfl (hw _ (List.mem_of_getElem? (i := 94) rfl)) Via.refl (SC) d16_13 ?_
      refine Go.iloadN K (q := 17) rfl d16_16 rfl ?_
      refine Go.sipush K (q := 20) rfl (v := (128 : Int32)) (by decide) d16_17 ?_
      refine Go.iadd K (q := 21) rfl d16_20 ?_
      obtain ⟨ce, A, H⟩ := CA
      obtain ⟨b, q1, q2, q3, q4⟩ := H x hc hd
      refine Go.aaloadC K (q := 22) rfl A rfl d16_21 q1 q2 ?_
      exact Go.retA K rfl rfl d16_22 (by decide) (by decide) (fun _ q => q) (⟨b, rfl, E0, q3, q4⟩)
set_option maxRecDepth 65536 in
set_option maxHeartbeats 40000000 in
theorem c_rec (l : Launch) (Z : State) (a0 : Array Value) (hw : ∀ d ∈ tables_1, d.before a0 Z = true) (xs : List Addr) (n0 : Nat) (h : Heap) (Z0 : n0 ≤ h.size) (a : Addr) :
    Ctr l Z consts_1 xs n0 (⟨"java/lang/Record", "<init>", "()V"⟩ : MethodName) jdk_30_method_1_code 1 none [] ({ frames := 1, cells := 0, slots := 0, locals := 12 } : Room) #[(.ref a)] h (fun v h' => v = none ∧ h = h') := by
  refine Ctr.body pn7 ?_
  intro p e s m below meth c K
  refine Go.entry (f' := (mkF m 0 #[.val (.ref a)] [])) (by first | (simp [entryFrame, mkF, argsToLocals, Value.category]; done) | rfl) ?_
  refine Go.aloadN K (q := 1) rfl d9_0 rfl rfl ?_
  refine Go.initO K (q := 4) rfl (hw _ (List.mem_of_getElem? (i := 50) rfl)) (hw _ (List.mem_of_getElem? (i := 24) rfl)) (hw _ (List.mem_of_getElem? (i := 25) rfl)) rfl d9_1 (by decide) (W := 0) (Nat.le_of_eq rfl) (by decide) ?_
  exact Go.retV K d9_4 (by decide) (by decide) (fun _ q => q) (⟨rfl, rfl⟩)
set_option maxRecDepth 65536 in
set_option maxHeartbeats 40000000 in
theorem c_mk (l : Launch) (Z : State) (a0 : Array Value) (hw : ∀ d ∈ tables_1, d.before a0 Z = true) (xs : List Addr) (n0 : Nat) (h : Heap) (Z0 : n0 ≤ h.size) (n c0 c1 : Int32) (hc0 : ¬ c0 < 0 ∧ ¬ (255 : Int32) < c0) (hc1 : ¬ c1 < 0 ∧ ¬ (255 : Int32) < c1) (z : Int32) (Sa : Sta Z h "java/lang/String" "COMPACT_STRINGS" "Z" (.int z)) (hz : ¬ z = 0) :
    Ctr l Z consts_1 xs n0 (⟨"com/example/mirror_tables/mirrortables/query/TokenIsSymbolPinLaw", "make", "(ICC)Ljava/lang/String;"⟩ : MethodName) method_3_code 4 (some (.object "java/lang/String")) [] ({ frames := 4, cells := 3, slots := 8, locals := 66 } : Room) #[(.int n), (.int c0), (.int c1)] h (fun v h' => ∃ a, v = some (.ref a) ∧ Ext h h' ∧ Str Z h' a (own_mk n c0 c1)) := by
  refine Ctr.body pn8 ?_
  intro p e s m below meth c K
  have own_atoms := own_atoms0 hw
  have own_words : ∀ d ∈ StrChars.Road.words, d.before a0 Z = true := fun d hd => hw d ((by decide +kernel : ∀ d ∈ StrChars.Road.words, d ∈ tables_1) d hd)
  refine Go.entry (f' := (mkF m 0 #[.val (.int n), .val (.int c0), .val (.int c1), .unset] [])) (by first | (simp [entryFrame, mkF, argsToLocals, Value.category]; done) | rfl) ?_
  have E0 := Ext.refl h
  refine Go.iloadN K (q := 1) rfl d1_0 rfl ?_
  refine Go.ifc K (q := 10) (q' := 4) (by decide) (by decide) rfl d1_1 (fun (gm1 : ¬ n = (0 : Int32)) => ?_) (fun (gm1 : n = (0 : Int32)) => ?_)
  · skip
    refine Go.iloadN K (q := 11) rfl d1_10 rfl ?_
    refine Go.iconst K (q := 12) rfl (v := (1 : Int32)) (by decide) d1_11 ?_
    refine Go.icmp K (q := 23) (q' := 15) (by decide) (by decide) rfl d1_12 (fun (gm2 : ¬ n = (1 : Int32)) => ?_) (fun (gm2 : n = (1 : Int32)) => ?_)
    · skip
      refine Go.new K (q := 26) rfl (hw _ (List.mem_of_getElem? (i := 70) rfl)) (hw _ (List.mem_of_getElem? (i := 14) rfl)) (hw _ (List.mem_of_getElem? (i := 6) rfl)) d1_23 (cells' := 1) (slots' := 4) rfl rfl (by decide) (by decide) ?_
      intro h2 a1 g_a1 N_a1 X_a1 D_a1
      have ge_E0_a1 : h.size ≤ a1 := Nat.le_trans E0.1 (Nat.le_of_eq g_a1.symm)
      have E0 := Ext.trans E0 N_a1
      have Fv_a1 : Fld Z h2 a1 "java/lang/String" "value" "[B" .null := D_a1 (Or.inr (hw _ (List.mem_of_getElem? (i := 27) rfl))) (ty := .array .byte) (by decide)
      have Fc_a1 : Fld Z h2 a1 "java/lang/String" "coder" "B" (.int (0 : Int32)) := D_a1 (Or.inr (hw _ (List.mem_of_getElem? (i := 29) rfl))) (ty := .byte) (by decide)
      have n_a1 : n0 ≤ a1 := (Nat.le_trans Z0 ge_E0_a1)
      refine Go.dup K (q := 27) rfl d1_26 rfl ?_
      refine Go.iconst K (q := 28) rfl (v := (2 : Int32)) (by decide) d1_27 ?_
      refine Go.newarr K (q := 30) rfl (hw _ (List.mem_of_getElem? (i := 71) rfl)) d1_28 (by decide) (cap := 2) (by decide) (by decide) (cells' := 2) (slots' := 6) rfl rfl (by decide) (by decide) ?_
      intro h4 a3 k_a3 g_a3 N_a3 V_a3
      have V_a3 : Arv Z h4 a3 k_a3 .char (2 : Int32) [(.int (0 : Int32)), (.int (0 : Int32))] (.int (0 : Int32)) := V_a3
      have ge_E0_a3 : h.size ≤ a3 := Nat.le_trans E0.1 (Nat.le_of_eq g_a3.symm)
      have E0 := Ext.trans E0 N_a3
      have ne_a1 : a1 ≠ a3 := Nat.ne_of_lt (Nat.lt_of_lt_of_le X_a1.lt (Nat.le_of_eq g_a3.symm))
      have n_a3 : n0 ≤ a3 := (Nat.le_trans Z0 ge_E0_a3)
      have X_a1 := X_a1.ext N_a3
      have Fv_a1 := Fv_a1.ext N_a3
      have Fc_a1 := Fc_a1.ext N_a3
      refine Go.dup K (q := 31) rfl d1_30 rfl ?_
      refine Go.iconst K (q := 32) rfl (v := (0 : Int32)) (by decide) d1_31 ?_
      refine Go.iloadN K (q := 33) rfl d1_32 rfl ?_
      refine Go.castore K (q := 34) rfl V_a3 (i := 0) d1_33 ⟨by decide, by decide⟩ rfl (Nat.le_of_ble_eq_true rfl) n_a3 List.mem_cons_self ?_
      intro h5 W6 V_a3
      have E0 := Ext.wr E0 W6 ge_E0_a3
      have X_a1 := X_a1.wr W6
      have Fv_a1 := Fv_a1.other W6 (Or.inl ne_a1)
      have Fc_a1 := Fc_a1.other W6 (Or.inl ne_a1)
      refine Go.dup K (q := 35) rfl d1_34 rfl ?_
      refine Go.iconst K (q := 36) rfl (v := (1 : Int32)) (by decide) d1_35 ?_
      refine Go.iloadN K (q := 37) rfl d1_36 rfl ?_
      refine Go.castore K (q := 38) rfl V_a3 (i := 1) d1_37 ⟨by decide, by decide⟩ rfl (Nat.le_of_ble_eq_true rfl) n_a3 List.mem_cons_self ?_
      intro h7 W8 V_a3
      have E0 := Ext.wr E0 W8 ge_E0_a3
      have X_a1 := X_a1.wr W8
      have Fv_a1 := Fv_a1.other W8 (Or.inl ne_a1)
      have Fc_a1 := Fc_a1.other W8 (Or.inl ne_a1)
      have hp9 : ∀ c ∈ ([(nar .char c0), (nar .char c1)] : List Int32), ¬ c < 0 ∧ ¬ (255 : Int32) < c := by
        intro c hc
        simp only [List.mem_cons, List.not_mem_nil, or_false] at hc
        rcases hc with rfl | rfl
        · exact by rw [own_nc hc0]; exact hc0
        · exact by rw [own_nc hc1]; exact hc1
      have V_a3 : Arv Z h7 a3 k_a3 .char (2 : Int32) (([(nar .char c0), (nar .char c1)] : List Int32).map Value.int) (.int (0 : Int32)) := V_a3
      refine Go.newStr K (q := 41) rfl own_words (hw _ (List.mem_of_getElem? (i := 14) rfl)) (hw _ (List.mem_of_getElem? (i := 72) rfl)) (hw _ (List.mem_of_getElem? (i := 73) rfl)) (hw _ (List.mem_of_getElem? (i := 74) rfl)) (cs := [(nar .char c0), (nar .char c1)]) n_a1 (Nat.le_trans Z0 E0.1) X_a1 Fv_a1 Fc_a1 V_a3 (Sa.ext E0) hz (n := 2) rfl rfl (by decide) (by decide) hp9 d1_38 (List.mem_cons_of_mem _ List.mem_cons_self) (by decide) rfl (W := 1) (Nat.le_of_eq rfl) (by decide) (cells' := 3) (slots' := 8) rfl rfl (by decide) (by decide) ?_
      intro h10 K11 S_a1
      have E0 := Ext.keep E0 K11 (allS ge_E0_a1 all0)
      refine Go.astoreN K (q := 42) rfl (L' := #[.val (.int n), .val (.int c0), .val (.int c1), .val (.ref a1)]) d1_41 rfl rfl ?_
      refine Go.aloadN K (q := 43) rfl d1_42 rfl rfl ?_
      exact Go.retA K rfl rfl d1_43 (by decide) (by decide) (fun _ q => (List.mem_cons_of_mem _ (List.mem_cons_of_mem _ q))) (⟨a1, rfl, E0, by rw [own_mk, if_neg gm1, if_neg gm2]; rw [own_nc hc0, own_nc hc1] at S_a1; exact S_a1⟩)
    · skip
      refine Go.iloadN K (q := 16) rfl d1_15 rfl ?_
      refine Go.cS K (q := 19) rfl (y := (⟨"java/lang/String", "valueOf", "(C)Ljava/lang/String;"⟩ : MethodName)) (c_val l Z a0 hw xs n0 h Z0 c0 hc0 z Sa hz) (hw _ (List.mem_of_getElem? (i := 4) rfl)) (hw _ (List.mem_of_getElem? (i := 5) rfl)) (hw _ (List.mem_of_getElem? (i := 6) rfl)) (hw _ (List.mem_of_getElem? (i := 7) rfl)) (by decide) pd5 (argsL := [(.int c0)]) (rest := []) rfl rfl rfl rfl (W := 0) (Nat.le_of_eq rfl) (by decide) (by decide) d1_16 (cells' := 2) (slots' := 5) rfl rfl (by decide) (by decide) ?_
      intro r13 h12 hQ sz_h12
      obtain ⟨a, rfl, N_a, S_a⟩ := hQ
      have E0 := Ext.trans E0 N_a
      show Go p l e _ s m _ below meth c _ _ _ _ _ _ _ _ _ h12 2 5 (mkF m 19 #[.val (.int n), .val (.int c0), .val (.int c1), .unset] [(.ref a)])
      refine Go.astoreN K (q := 20) rfl (L' := #[.val (.int n), .val (.int c0), .val (.int c1), .val (.ref a)]) d1_19 rfl rfl ?_
      refine Go.goto K (q := 42) (by decide) (by decide) d1_20 ?_
      refine Go.aloadN K (q := 43) rfl d1_42 rfl rfl ?_
      exact Go.retA K rfl rfl d1_43 (by decide) (by decide) (fun _ q => q) (⟨a, rfl, E0, by rw [own_mk, if_neg gm1, if_pos gm2]; exact S_a⟩)
  · skip
    refine Go.ldcS K (q := 6) rfl (text := "") (by decide) (hw _ (List.mem_of_getElem? (i := 30) rfl)) own_atoms (by decide) d1_4 (n := 0) (by decide) (by decide) (cells' := 2) (slots' := 4) rfl rfl (by decide) (by decide) ?_
    intro h14 s15 N_s15 T_s15
    have E0 := Ext.trans E0 N_s15
    have S0 : Str Z h14 s15 (chs "") := Str.lit (by decide) (by decide) T_s15
    refine Go.astoreN K (q := 7) rfl (L' := #[.val (.int n), .val (.int c0), .val (.int c1), .val (.ref s15)]) d1_6 rfl rfl ?_
    refine Go.goto K (q := 42) (by decide) (by decide) d1_7 ?_
    refine Go.aloadN K (q := 43) rfl d1_42 rfl rfl ?_
    exact Go.retA K rfl rfl d1_43 (by decide) (by decide) (fun _ q => q) (⟨s15, rfl, E0, by rw [own_mk, if_pos gm1]; exact S0⟩)
set_option maxRecDepth 65536 in
set_option maxHeartbeats 40000000 in
theorem c_kind (l : Launch) (Z : State) (a0 : Array Value) (hw : ∀ d ∈ tables_1, d.before a0 Z = true) (xs : List Addr) (n0 : Nat) (h : Heap) (Z0 : n0 ≤ h.size) (x : Int32) (k_IDENTIFIER k_STRING k_NUMBER k_DATE_TIME k_NAMED_PARAMETER k_POSITIONAL_PARAMETER k_SYMBOL k_END : Addr) (T_IDENTIFIER : Sta Z h "com/example/mirror_tables/mirrortables/query/JpqlLexer$Kind" "IDENTIFIER" "Lcom/example/mirror_tables/mirrortables/query/JpqlLexer$Kind;" (.ref k_IDENTIFIER)) (T_STRING : Sta Z h "com/example/mirror_tables/mirrortables/query/JpqlLexer$Kind" "STRING" "Lcom/example/mirror_tables/mirrortables/query/JpqlLexer$Kind;" (.ref k_STRING)) (T_NUMBER : Sta Z h "com/example/mirror_tables/mirrortables/query/JpqlLexer$Kind" "NUMBER" "Lcom/example/mirror_tables/mirrortables/query/JpqlLexer$Kind;" (.ref k_NUMBER)) (T_DATE_TIME : Sta Z h "com/example/mirror_tables/mirrortables/query/JpqlLexer$Kind" "DATE_TIME" "Lcom/example/mirror_tables/mirrortables/query/JpqlLexer$Kind;" (.ref k_DATE_TIME)) (T_NAMED_PARAMETER : Sta Z h "com/example/mirror_tables/mirrortables/query/JpqlLexer$Kind" "NAMED_PARAMETER" "Lcom/example/mirror_tables/mirrortables/query/JpqlLexer$Kind;" (.ref k_NAMED_PARAMETER)) (T_POSITIONAL_PARAMETER : Sta Z h "com/example/mirror_tables/mirrortables/query/JpqlLexer$Kind" "POSITIONAL_PARAMETER" "Lcom/example/mirror_tables/mirrortables/query/JpqlLexer$Kind;" (.ref k_POSITIONAL_PARAMETER)) (T_SYMBOL : Sta Z h "com/example/mirror_tables/mirrortables/query/JpqlLexer$Kind" "SYMBOL" "Lcom/example/mirror_tables/mirrortables/query/JpqlLexer$Kind;" (.ref k_SYMBOL)) (T_END : Sta Z h "com/example/mirror_tables/mirrortables/query/JpqlLexer$Kind" "END" "Lcom/example/mirror_tables/mirrortables/query/JpqlLexer$Kind;" (.ref k_END)) :
    Ctr l Z consts_1 xs n0 (⟨"com/example/mirror_tables/mirrortables/query/TokenIsSymbolPinLaw", "kindOf", "(I)Lcom/example/mirror_tables/mirrortables/query/JpqlLexer$Kind;"⟩ : MethodName) method_2_code 2 (some (.object "com/example/mirror_tables/mirrortables/query/JpqlLexer$Kind")) [] ({ frames := 0, cells := 0, slots := 0, locals := 0 } : Room) #[(.int x)] h (fun v h' => v = some (.ref (own_kd k_IDENTIFIER k_STRING k_NUMBER k_DATE_TIME k_NAMED_PARAMETER k_POSITIONAL_PARAMETER k_SYMBOL k_END x)) ∧ h = h') := by
  refine Ctr.body pn9 ?_
  intro p e s m below meth c K
  refine Go.entry (f' := (mkF m 0 #[.val (.int x), .unset] [])) (by first | (simp [entryFrame, mkF, argsToLocals, Value.category]; done) | rfl) ?_
  refine Go.iloadN K (q := 1) rfl d7_0 rfl ?_
  refine Go.ifc K (q := 11) (q' := 4) (by decide) (by decide) rfl d7_1 (fun (g0 : ¬ x = (0 : Int32)) => ?_) (fun (g0 : x = (0 : Int32)) => ?_)
  · skip
    refine Go.iloadN K (q := 12) rfl d7_11 rfl ?_
    refine Go.iconst K (q := 13) rfl (v := (1 : Int32)) (by decide) d7_12 ?_
    refine Go.icmp K (q := 23) (q' := 16) (by decide) (by decide) rfl d7_13 (fun (g1 : ¬ x = (1 : Int32)) => ?_) (fun (g1 : x = (1 : Int32)) => ?_)
    · skip
      refine Go.iloadN K (q := 24) rfl d7_23 rfl ?_
      refine Go.iconst K (q := 25) rfl (v := (2 : Int32)) (by decide) d7_24 ?_
      refine Go.icmp K (q := 35) (q' := 28) (by decide) (by decide) rfl d7_25 (fun (g2 : ¬ x = (2 : Int32)) => ?_) (fun (g2 : x = (2 : Int32)) => ?_)
      · skip
        refine Go.iloadN K (q := 36) rfl d7_35 rfl ?_
        refine Go.iconst K (q := 37) rfl (v := (3 : Int32)) (by decide) d7_36 ?_
        refine Go.icmp K (q := 47) (q' := 40) (by decide) (by decide) rfl d7_37 (fun (g3 : ¬ x = (3 : Int32)) => ?_) (fun (g3 : x = (3 : Int32)) => ?_)
        · skip
          refine Go.iloadN K (q := 48) rfl d7_47 rfl ?_
          refine Go.iconst K (q := 49) rfl (v := (4 : Int32)) (by decide) d7_48 ?_
          refine Go.icmp K (q := 59) (q' := 52) (by decide) (by decide) rfl d7_49 (fun (g4 : ¬ x = (4 : Int32)) => ?_) (fun (g4 : x = (4 : Int32)) => ?_)
          · skip
            refine Go.iloadN K (q := 60) rfl d7_59 rfl ?_
            refine Go.iconst K (q := 61) rfl (v := (5 : Int32)) (by decide) d7_60 ?_
            refine Go.icmp K (q := 71) (q' := 64) (by decide) (by decide) rfl d7_61 (fun (g5 : ¬ x = (5 : Int32)) => ?_) (fun (g5 : x = (5 : Int32)) => ?_)
            · skip
              refine Go.iloadN K (q := 72) rfl d7_71 rfl ?_
              refine Go.bipush K (q := 74) rfl (v := (6 : Int32)) (by decide) d7_72 ?_
              refine Go.icmp K (q := 84) (q' := 77) (by decide) (by decide) rfl d7_74 (fun (g6 : ¬ x = (6 : Int32)) => ?_) (fun (g6 : x = (6 : Int32)) => ?_)
              · skip
                refine Go.getS K (q := 87) rfl (hw _ (List.mem_of_getElem? (i := 95) rfl)) Via.refl (T_END) d7_84 ?_
                refine Go.astoreN K (q := 88) rfl (L' := #[.val (.int x), .val (.ref k_END)]) d7_87 rfl rfl ?_
                refine Go.aloadN K (q := 89) rfl d7_88 rfl rfl ?_
                exact Go.retA K rfl rfl d7_89 (by decide) (by decide) (fun _ q => q) (⟨by rw [own_kd, if_neg g0, if_neg g1, if_neg g2, if_neg g3, if_neg g4, if_neg g5, if_neg g6], rfl⟩)
              · skip
                refine Go.getS K (q := 80) rfl (hw _ (List.mem_of_getElem? (i := 114) rfl)) Via.refl (T_SYMBOL) d7_77 ?_
                refine Go.astoreN K (q := 81) rfl (L' := #[.val (.int x), .val (.ref k_SYMBOL)]) d7_80 rfl rfl ?_
                refine Go.goto K (q := 88) (by decide) (by decide) d7_81 ?_
                refine Go.aloadN K (q := 89) rfl d7_88 rfl rfl ?_
                exact Go.retA K rfl rfl d7_89 (by decide) (by decide) (fun _ q => q) (⟨by rw [own_kd, if_neg g0, if_neg g1, if_neg g2, if_neg g3, if_neg g4, if_neg g5, if_pos g6], rfl⟩)
            · skip
              refine Go.getS K (q := 67) rfl (hw _ (List.mem_of_getElem? (i := 68) rfl)) Via.refl (T_POSITIONAL_PARAMETER) d7_64 ?_
              refine Go.astoreN K (q := 68) rfl (L' := #[.val (.int x), .val (.ref k_POSITIONAL_PARAMETER)]) d7_67 rfl rfl ?_
              refine Go.goto K (q := 88) (by decide) (by decide) d7_68 ?_
              refine Go.aloadN K (q := 89) rfl d7_88 rfl rfl ?_
              exact Go.retA K rfl rfl d7_89 (by decide) (by decide) (fun _ q => q) (⟨by rw [own_kd, if_neg g0, if_neg g1, if_neg g2, if_neg g3, if_neg g4, if_pos g5], rfl⟩)
          · skip
            refine Go.getS K (q := 55) rfl (hw _ (List.mem_of_getElem? (i := 66) rfl)) Via.refl (T_NAMED_PARAMETER) d7_52 ?_
            refine Go.astoreN K (q := 56) rfl (L' := #[.val (.int x), .val (.ref k_NAMED_PARAMETER)]) d7_55 rfl rfl ?_
            refine Go.goto K (q := 88) (by decide) (by decide) d7_56 ?_
            refine Go.aloadN K (q := 89) rfl d7_88 rfl rfl ?_
            exact Go.retA K rfl rfl d7_89 (by decide) (by decide) (fun _ q => q) (⟨by rw [own_kd, if_neg g0, if_neg g1, if_neg g2, if_neg g3, if_pos g4], rfl⟩)
        · skip
          refine Go.getS K (q := 43) rfl (hw _ (List.mem_of_getElem? (i := 120) rfl)) Via.refl (T_DATE_TIME) d7_40 ?_
          refine Go.astoreN K (q := 44) rfl (L' := #[.val (.int x), .val (.ref k_DATE_TIME)]) d7_43 rfl rfl ?_
          refine Go.goto K (q := 88) (by decide) (by decide) d7_44 ?_
          refine Go.aloadN K (q := 89) rfl d7_88 rfl rfl ?_
          exact Go.retA K rfl rfl d7_89 (by decide) (by decide) (fun _ q => q) (⟨by rw [own_kd, if_neg g0, if_neg g1, if_neg g2, if_pos g3], rfl⟩)
      · skip
        refine Go.getS K (q := 31) rfl (hw _ (List.mem_of_getElem? (i := 97) rfl)) Via.refl (T_NUMBER) d7_28 ?_
        refine Go.astoreN K (q := 32) rfl (L' := #[.val (.int x), .val (.ref k_NUMBER)]) d7_31 rfl rfl ?_
        refine Go.goto K (q := 88) (by decide) (by decide) d7_32 ?_
        refine Go.aloadN K (q := 89) rfl d7_88 rfl rfl ?_
        exact Go.retA K rfl rfl d7_89 (by decide) (by decide) (fun _ q => q) (⟨by rw [own_kd, if_neg g0, if_neg g1, if_pos g2], rfl⟩)
    · skip
      refine Go.getS K (q := 19) rfl (hw _ (List.mem_of_getElem? (i := 122) rfl)) Via.refl (T_STRING) d7_16 ?_
      refine Go.astoreN K (q := 20) rfl (L' := #[.val (.int x), .val (.ref k_STRING)]) d7_19 rfl rfl ?_
      refine Go.goto K (q := 88) (by decide) (by decide) d7_20 ?_
      refine Go.aloadN K (q := 89) rfl d7_88 rfl rfl ?_
      exact Go.retA K rfl rfl d7_89 (by decide) (by decide) (fun _ q => q) (⟨by rw [own_kd, if_neg g0, if_pos g1], rfl⟩)
  · skip
    refine Go.getS K (q := 7) rfl (hw _ (List.mem_of_getElem? (i := 39) rfl)) Via.refl (T_IDENTIFIER) d7_4 ?_
    refine Go.astoreN K (q := 8) rfl (L' := #[.val (.int x), .val (.ref k_IDENTIFIER)]) d7_7 rfl rfl ?_
    refine Go.goto K (q := 88) (by decide) (by decide) d7_8 ?_
    refine Go.aloadN K (q := 89) rfl d7_88 rfl rfl ?_
    exact Go.retA K rfl rfl d7_89 (by decide) (by decide) (fun _ q => q) (⟨by rw [own_kd, if_pos g0], rfl⟩)
set_option maxRecDepth 65536 in
set_option maxHeartbeats 40000000 in
theorem c_tk (l : Launch) (Z : State) (a0 : Array Value) (hw : ∀ d ∈ tables_1, d.before a0 Z = true) (xs : List Addr) (n0 : Nat) (h : Heap) (Z0 : n0 ≤ h.size) (a k tx : Addr) (ov : Value) (hov : ov.isRef = true) (x : Int32) (hax : a ∈ xs) (ga : n0 ≤ a) (E : Exa Z h a "com/example/mirror_tables/mirrortables/query/JpqlLexer$Token") (F0 : Fld Z h a "com/example/mirror_tables/mirrortables/query/JpqlLexer$Token" "kind" "Lcom/example/mirror_tables/mirrortables/query/JpqlLexer$Kind;" .null) (F1 : Fld Z h a "com/example/mirror_tables/mirrortables/query/JpqlLexer$Token" "text" "Ljava/lang/String;" .null) (F2 : Fld Z h a "com/example/mirror_tables/mirrortables/query/JpqlLexer$Token" "value" "Ljava/lang/Object;" .null) (F3 : Fld Z h a "com/example/mirror_tables/mirrortables/query/JpqlLexer$Token" "position" "I" (.int (0 : Int32))) :
    Ctr l Z consts_1 xs n0 (⟨"com/example/mirror_tables/mirrortables/query/JpqlLexer$Token", "<init>", "(Lcom/example/mirror_tables/mirrortables/query/JpqlLexer$Kind;Ljava/lang/String;Ljava/lang/Object;I)V"⟩ : MethodName) prog_19_method_1_code 5 none [] ({ frames := 2, cells := 0, slots := 0, locals := 24 } : Room) #[(.ref a), (.ref k), (.ref tx), ov, (.int x)] h (fun v h' => v = none ∧ Keep h h' [a] ∧ Exa Z h' a "com/example/mirror_tables/mirrortables/query/JpqlLexer$Token" ∧ Fld Z h' a "com/example/mirror_tables/mirrortables/query/JpqlLexer$Token" "kind" "Lcom/example/mirror_tables/mirrortables/query/JpqlLexer$Kind;" (.ref k) ∧ Fld Z h' a "com/example/mirror_tables/mirrortables/query/JpqlLexer$Token" "text" "Ljava/lang/String;" (.ref tx)) := by
  refine Ctr.body pn10 ?_
  intro p e s m below meth c K
  refine Go.entry (f' := (mkF m 0 #[.val (.ref a), .val (.ref k), .val (.ref tx), .val ov, .val (.int x)] [])) (own_ef m a k tx ov x hov) ?_
  have K0 := Keep.refl h [a]
  refine Go.aloadN K (q := 1) rfl d8_0 rfl rfl ?_
  show Go p l e _ s m _ below meth c _ _ _ _ _ _ _ _ _ h 0 0 (mkF m 1 #[.val (.ref a), .val (.ref k), .val (.ref tx), .val ov, .val (.int x)] [(.ref a)])
  refine Go.cI K (q := 4) rfl (y := (⟨"java/lang/Record", "<init>", "()V"⟩ : MethodName)) (c_rec l Z a0 hw xs n0 h Z0 a) rfl (hw _ (List.mem_of_getElem? (i := 45) rfl)) (hw _ (List.mem_of_getElem? (i := 46) rfl)) (hw _ (List.mem_of_getElem? (i := 48) rfl)) (hw _ (List.mem_of_getElem? (i := 49) rfl)) (by decide) (a := a) pd3 (argsL := []) (rest := []) rfl rfl rfl rfl (W := 0) (Nat.le_of_eq rfl) (by decide) (by decide) d8_1 (cells' := 0) (slots' := 0) rfl rfl (by decide) (by decide) ?_
  intro r2 h1 hQ sz_h1
  obtain ⟨rfl, rfl⟩ := hQ
  show Go p l e _ s m _ below meth c _ _ _ _ _ _ _ _ _ h 0 0 (mkF m 4 #[.val (.ref a), .val (.ref k), .val (.ref tx), .val ov, .val (.int x)] [])
  refine Go.aloadN K (q := 5) rfl d8_4 rfl rfl ?_
  refine Go.aloadN K (q := 6) rfl d8_5 rfl rfl ?_
  refine Go.putF K (q := 9) rfl (hw _ (List.mem_of_getElem? (i := 51) rfl)) Via.refl F0 E (Or.inr ⟨(hw _ (List.mem_of_getElem? (i := 52) rfl)), rfl, rfl⟩) (hw _ (List.mem_of_getElem? (i := 34) rfl)) (ty := (.object "com/example/mirror_tables/mirrortables/query/JpqlLexer$Kind")) (by decide) rfl rfl d8_6 ga hax ?_
  intro h3 W4 F0 E
  have K0 := K0.wr W4 (Or.inl List.mem_cons_self)
  have F1 := F1.other W4 (Or.inr (own_ts10 hw))
  have F2 := F2.other W4 (Or.inr (own_ts20 hw))
  have F3 := F3.other W4 (Or.inr (own_ts30 hw))
  refine Go.aloadN K (q := 10) rfl d8_9 rfl rfl ?_
  refine Go.aloadN K (q := 11) rfl d8_10 rfl rfl ?_
  refine Go.putF K (q := 14) rfl (hw _ (List.mem_of_getElem? (i := 53) rfl)) Via.refl F1 E (Or.inr ⟨(hw _ (List.mem_of_getElem? (i := 54) rfl)), rfl, rfl⟩) (hw _ (List.mem_of_getElem? (i := 34) rfl)) (ty := (.object "java/lang/String")) (by decide) rfl rfl d8_11 ga hax ?_
  intro h5 W6 F1 E
  have K0 := K0.wr W6 (Or.inl List.mem_cons_self)
  have F0 := F0.other W6 (Or.inr (own_ts01 hw))
  have F2 := F2.other W6 (Or.inr (own_ts21 hw))
  have F3 := F3.other W6 (Or.inr (own_ts31 hw))
  refine Go.aloadN K (q := 15) rfl d8_14 rfl rfl ?_
  refine Go.aloadN K (q := 16) rfl d8_15 rfl hov ?_
  refine Go.putF K (q := 19) rfl (hw _ (List.mem_of_getElem? (i := 55) rfl)) Via.refl F2 E (Or.inr ⟨(hw _ (List.mem_of_getElem? (i := 56) rfl)), rfl, rfl⟩) (hw _ (List.mem_of_getElem? (i := 34) rfl)) (ty := (.object "java/lang/Object")) (by decide) (own_nro hov) (own_fto hov) d8_16 ga hax ?_
  intro h7 W8 F2 E
  have K0 := K0.wr W8 (Or.inl List.mem_cons_self)
  have F0 := F0.other W8 (Or.inr (own_ts02 hw))
  have F1 := F1.other W8 (Or.inr (own_ts12 hw))
  have F3 := F3.other W8 (Or.inr (own_ts32 hw))
  refine Go.aloadN K (q := 20) rfl d8_19 rfl rfl ?_
  refine Go.iload K (q := 22) rfl d8_20 rfl ?_
  refine Go.putF K (q := 25) rfl (hw _ (List.mem_of_getElem? (i := 57) rfl)) Via.refl F3 E (Or.inr ⟨(hw _ (List.mem_of_getElem? (i := 58) rfl)), rfl, rfl⟩) (hw _ (List.mem_of_getElem? (i := 34) rfl)) (ty := .int) (by decide) rfl rfl d8_22 ga hax ?_
  intro h9 W10 F3 E
  have K0 := K0.wr W10 (Or.inl List.mem_cons_self)
  have F0 := F0.other W10 (Or.inr (own_ts03 hw))
  have F1 := F1.other W10 (Or.inr (own_ts13 hw))
  have F2 := F2.other W10 (Or.inr (own_ts23 hw))
  exact Go.retV K d8_25 (by decide) (by decide) (fun _ q => q) (⟨rfl, K0, E, F0, F1⟩)
set_option maxRecDepth 65536 in
set_option maxHeartbeats 40000000 in
theorem c_sym (l : Launch) (Z : State) (a0 : Array Value) (hw : ∀ d ∈ tables_1, d.before a0 Z = true) (xs : List Addr) (n0 : Nat) (h : Heap) (Z0 : n0 ≤ h.size) (a b k ks tx : Addr) (cs ds : List Int32) (z : Int32) (Sa : Sta Z h "java/lang/String" "COMPACT_STRINGS" "Z" (.int z)) (hz : ¬ z = 0) (TS : Sta Z h "com/example/mirror_tables/mirrortables/query/JpqlLexer$Kind" "SYMBOL" "Lcom/example/mirror_tables/mirrortables/query/JpqlLexer$Kind;" (.ref ks)) (F0 : Fld Z h a "com/example/mirror_tables/mirrortables/query/JpqlLexer$Token" "kind" "Lcom/example/mirror_tables/mirrortables/query/JpqlLexer$Kind;" (.ref k)) (F1 : Fld Z h a "com/example/mirror_tables/mirrortables/query/JpqlLexer$Token" "text" "Ljava/lang/String;" (.ref tx)) (S1 : Str Z h tx cs) (S2 : Str Z h b ds) :
    Ctr l Z consts_1 xs n0 (⟨"com/example/mirror_tables/mirrortables/query/JpqlLexer$Token", "isSymbol", "(Ljava/lang/String;)Z"⟩ : MethodName) prog_19_method_3_code 2 (some .boolean) [] ({ frames := 2, cells := 0, slots := 0, locals := 28 } : Room) #[(.ref a), (.ref b)] h (fun v h' => v = some (.int (if k = ks ∧ cs = ds then 1 else 0)) ∧ h = h') := by
  refine Ctr.body pn11 ?_
  intro p e s m below meth c K
  refine Go.entry (f' := (mkF m 0 #[.val (.ref a), .val (.ref b)] [])) (by first | (simp [entryFrame, mkF, argsToLocals, Value.category]; done) | rfl) ?_
  refine Go.aloadN K (q := 1) rfl d10_0 rfl rfl ?_
  refine Go.getF K (q := 4) rfl (hw _ (List.mem_of_getElem? (i := 51) rfl)) Via.refl (F0) d10_1 ?_
  refine Go.getS K (q := 7) rfl (hw _ (List.mem_of_getElem? (i := 64) rfl)) Via.refl (TS) d10_4 ?_
  by_cases hk : k = ks
  · skip
    refine Go.acmp K (q := 10) rfl rfl (same := true) (decide_eq_true (congrArg Value.ref hk)) (by decide) (by decide) d10_7 ?_
    refine Go.aloadN K (q := 11) rfl d10_10 rfl rfl ?_
    refine Go.getF K (q := 14) rfl (hw _ (List.mem_of_getElem? (i := 53) rfl)) Via.refl (F1) d10_11 ?_
    refine Go.aloadN K (q := 15) rfl d10_14 rfl rfl ?_
    refine Go.strEq K (q := 18) rfl (own_weq0 hw) (hw _ (List.mem_of_getElem? (i := 14) rfl)) (y := (⟨"java/lang/String", "equals", "(Ljava/lang/Object;)Z"⟩ : MethodName)) (hw _ (List.mem_of_getElem? (i := 115) rfl)) (hw _ (List.mem_of_getElem? (i := 116) rfl)) (nfS (hw _ (List.mem_of_getElem? (i := 118) rfl))) (hw _ (List.mem_of_getElem? (i := 118) rfl)) (hw _ (List.mem_of_getElem? (i := 117) rfl)) (by decide) rfl (S1) (S2) (Sa) hz d10_15 (by decide) rfl (W := 0) (Nat.le_of_eq rfl) (by decide) (by decide) (by decide) (fun hs => ?_) (fun hs => ?_)
    · skip
      refine Go.ifN K (q := 21) rfl d10_18 (show ¬ (1 : Int32) = (0 : Int32) from (by decide)) ?_
      refine Go.iconst K (q := 22) rfl (v := (1 : Int32)) (by decide) d10_21 ?_
      refine Go.goto K (q := 26) (by decide) (by decide) d10_22 ?_
      exact Go.retN K (by simp) d10_26 (by decide) (by decide) (fun _ q => q) (⟨by rw [if_pos ⟨hk, hs⟩]; rfl, rfl⟩)
    · skip
      refine Go.ifY K (q := 25) (by decide) (by decide) d10_18 (show (0 : Int32) = (0 : Int32) from rfl) ?_
      refine Go.iconst K (q := 26) rfl (v := (0 : Int32)) (by decide) d10_25 ?_
      exact Go.retN K (by simp) d10_26 (by decide) (by decide) (fun _ q => q) (⟨by rw [if_neg (fun q => hs q.2)]; rfl, rfl⟩)
  · skip
    refine Go.acmp K (q := 25) rfl rfl (same := false) (decide_eq_false fun q => hk (Value.ref.inj q)) (by decide) (by decide) d10_7 ?_
    refine Go.iconst K (q := 26) rfl (v := (0 : Int32)) (by decide) d10_25 ?_
    exact Go.retN K (by simp) d10_26 (by decide) (by decide) (fun _ q => q) (⟨by rw [if_neg (fun q => hk q.1)]; rfl, rfl⟩)
set_option maxRecDepth 65536 in
set_option maxHeartbeats 40000000 in
theorem rm0 (l : Launch) (Z : State) (a0 : Array Value) (hw : ∀ d ∈ tables_1, d.before a0 Z = true) (ws : List Jvm.Cond) (xs : List Addr) (n0 : Nat) (h : Heap) (Z0 : n0 ≤ h.size) (kk a b lens mix pos : Int32) (z : Int32) (Sa : Sta Z h "java/lang/String" "COMPACT_STRINGS" "Z" (.int z)) (hz : ¬ z = 0) (k_IDENTIFIER k_STRING k_NUMBER k_DATE_TIME k_NAMED_PARAMETER k_POSITIONAL_PARAMETER k_SYMBOL k_END : Addr) (T_IDENTIFIER : Sta Z h "com/example/mirror_tables/mirrortables/query/JpqlLexer$Kind" "IDENTIFIER" "Lcom/example/mirror_tables/mirrortables/query/JpqlLexer$Kind;" (.ref k_IDENTIFIER)) (T_STRING : Sta Z h "com/example/mirror_tables/mirrortables/query/JpqlLexer$Kind" "STRING" "Lcom/example/mirror_tables/mirrortables/query/JpqlLexer$Kind;" (.ref k_STRING)) (T_NUMBER : Sta Z h "com/example/mirror_tables/mirrortables/query/JpqlLexer$Kind" "NUMBER" "Lcom/example/mirror_tables/mirrortables/query/JpqlLexer$Kind;" (.ref k_NUMBER)) (T_DATE_TIME : Sta Z h "com/example/mirror_tables/mirrortables/query/JpqlLexer$Kind" "DATE_TIME" "Lcom/example/mirror_tables/mirrortables/query/JpqlLexer$Kind;" (.ref k_DATE_TIME)) (T_NAMED_PARAMETER : Sta Z h "com/example/mirror_tables/mirrortables/query/JpqlLexer$Kind" "NAMED_PARAMETER" "Lcom/example/mirror_tables/mirrortables/query/JpqlLexer$Kind;" (.ref k_NAMED_PARAMETER)) (T_POSITIONAL_PARAMETER : Sta Z h "com/example/mirror_tables/mirrortables/query/JpqlLexer$Kind" "POSITIONAL_PARAMETER" "Lcom/example/mirror_tables/mirrortables/query/JpqlLexer$Kind;" (.ref k_POSITIONAL_PARAMETER)) (T_SYMBOL : Sta Z h "com/example/mirror_tables/mirrortables/query/JpqlLexer$Kind" "SYMBOL" "Lcom/example/mirror_tables/mirrortables/query/JpqlLexer$Kind;" (.ref k_SYMBOL)) (T_END : Sta Z h "com/example/mirror_tables/mirrortables/query/JpqlLexer$Kind" "END" "Lcom/example/mirror_tables/mirrortables/query/JpqlLexer$Kind;" (.ref k_END)) (ac : Addr) (SH : Sta Z h "java/lang/Integer$IntegerCache" "high" "I" (.int 127)) (SC : Sta Z h "java/lang/Integer$IntegerCache" "cache" "[Ljava/lang/Integer;" (.ref ac)) (CA : Cache Z h ac) (d_IDENTIFIER : k_IDENTIFIER ≠ k_SYMBOL) (d_STRING : k_STRING ≠ k_SYMBOL) (d_NUMBER : k_NUMBER ≠ k_SYMBOL) (d_DATE_TIME : k_DATE_TIME ≠ k_SYMBOL) (d_NAMED_PARAMETER : k_NAMED_PARAMETER ≠ k_SYMBOL) (d_POSITIONAL_PARAMETER : k_POSITIONAL_PARAMETER ≠ k_SYMBOL) (d_END : k_END ≠ k_SYMBOL) :
    Ctr l Z consts_1 xs n0 x code maxLocals ret ws room_1 #[(.int kk), (.int a), (.int b), (.int lens), (.int mix), (.int pos)] h (fun v h' => v = some (.int 1)) := by
  refine Ctr.body pn12 ?_
  intro p e s m below meth c K
  refine Go.entry (f' := (mkF m 0 #[.val (.int kk), .val (.int a), .val (.int b), .val (.int lens), .val (.int mix), .val (.int pos), .unset, .unset, .unset, .unset, .unset, .unset, .unset, .unset, .unset, .unset, .unset, .unset] [])) (by first | (simp [entryFrame, mkF, argsToLocals, Value.category, maxLocals]; done) | rfl) ?_
  have E0 := Ext.refl h
  refine Go.iloadN K (q := 1) rfl at_0 rfl ?_
  refine Go.bipush K (q := 3) rfl (v := (7 : Int32)) (by decide) at_1 ?_
  refine Go.iand K (q := 4) rfl at_3 ?_
  generalize ekd1 : (kk &&& (7 : Int32)) = kd1
  refine Go.istore K (q := 6) rfl (L' := #[.val (.int kk), .val (.int a), .val (.int b), .val (.int lens), .val (.int mix), .val (.int pos), .val (.int kd1), .unset, .unset, .unset, .unset, .unset, .unset, .unset, .unset, .unset, .unset, .unset]) at_4 rfl ?_
  refine Go.iloadN K (q := 7) rfl at_6 rfl ?_
  refine Go.iconst K (q := 8) rfl (v := (3 : Int32)) (by decide) at_7 ?_
  refine Go.iand K (q := 9) rfl at_8 ?_
  refine Go.iconst K (q := 10) rfl (v := (3 : Int32)) (by decide) at_9 ?_
  refine Go.irem K (q := 11) rfl at_10 (by decide) ?_
  generalize ela2 : ((lens &&& (3 : Int32)) % (3 : Int32)) = la2
  refine Go.istore K (q := 13) rfl (L' := #[.val (.int kk), .val (.int a), .val (.int b), .val (.int lens), .val (.int mix), .val (.int pos), .val (.int kd1), .val (.int la2), .unset, .unset, .unset, .unset, .unset, .unset, .unset, .unset, .unset, .unset]) at_11 rfl ?_
  refine Go.iloadN K (q := 14) rfl at_13 rfl ?_
  refine Go.sipush K (q := 17) rfl (v := (255 : Int32)) (by decide) at_14 ?_
  refine Go.iand K (q := 18) rfl at_17 ?_
  refine Go.i2c K (q := 19) rfl at_18 ?_
  generalize eca3 : (a &&& (255 : Int32)).toUInt32.toUInt16.toUInt32.toInt32 = ca3
  refine Go.istore K (q := 21) rfl (L' := #[.val (.int kk), .val (.int a), .val (.int b), .val (.int lens), .val (.int mix), .val (.int pos), .val (.int kd1), .val (.int la2), .val (.int ca3), .unset, .unset, .unset, .unset, .unset, .unset, .unset, .unset, .unset]) at_19 rfl ?_
  refine Go.iloadN K (q := 22) rfl at_21 rfl ?_
  refine Go.bipush K (q := 24) rfl (v := (8 : Int32)) (by decide) at_22 ?_
  refine Go.iushr K (q := 25) rfl at_24 ?_
  refine Go.sipush K (q := 28) rfl (v := (255 : Int32)) (by decide) at_25 ?_
  refine Go.iand K (q := 29) rfl at_28 ?_
  refine Go.i2c K (q := 30) rfl at_29 ?_
  generalize eca4 : (((a.toUInt32 >>> ((8 : Int32) &&& 31).toUInt32).toInt32) &&& (255 : Int32)).toUInt32.toUInt16.toUInt32.toInt32 = ca4
  refine Go.istore K (q := 32) rfl (L' := #[.val (.int kk), .val (.int a), .val (.int b), .val (.int lens), .val (.int mix), .val (.int pos), .val (.int kd1), .val (.int la2), .val (.int ca3), .val (.int ca4), .unset, .unset, .unset, .unset, .unset, .unset, .unset, .unset]) at_30 rfl ?_
  show Go p l e _ s m _ below meth c _ _ _ _ _ _ _ _ _ h 0 0 (mkF m 32 #[.val (.int kk), .val (.int a), .val (.int b), .val (.int lens), .val (.int mix), .val (.int pos), .val (.int kd1), .val (.int la2), .val (.int ca3), .val (.int ca4), .unset, .unset, .unset, .unset, .unset, .unset, .unset, .unset] [])
  have hA0 : ¬ ca3 < 0 ∧ ¬ (255 : Int32) < ca3 := by rw [← eca3]; exact own_c8 _
  have hA1 : ¬ ca4 < 0 ∧ ¬ (255 : Int32) < ca4 := by rw [← eca4]; exact own_c8 _
  have hla := own_3 ela2
  have hkd := own_8 ekd1
  have key95 : ∀ b0 b1 lb : Int32, (¬ b0 < 0 ∧ ¬ (255 : Int32) < b0) → (¬ b1 < 0 ∧ ¬ (255 : Int32) < b1) → (lb = 0 ∨ lb = 1 ∨ lb = 2) → Go p l e room_1 s m #[(.int kk), (.int a), (.int b), (.int lens), (.int mix), (.int pos)] below meth c Z "com/example/mirror_tables/mirrortables/query/TokenIsSymbolPinLaw" consts_1 xs n0 room_1.cells room_1.slots (fun v h' => v = some (.int 1)) xs h 0 0 (mkF m 95 #[.val (.int kk), .val (.int a), .val (.int b), .val (.int lens), .val (.int mix), .val (.int pos), .val (.int kd1), .val (.int la2), .val (.int ca3), .val (.int ca4), .val (.int b0), .val (.int b1), .unset, .unset, .unset, .unset, .unset, .unset] [(.int lb)]) := by
    intro b0 b1 lb hB0 hB1 hlb
    refine Go.istore K (q := 97) rfl (L' := #[.val (.int kk), .val (.int a), .val (.int b), .val (.int lens), .val (.int mix), .val (.int pos), .val (.int kd1), .val (.int la2), .val (.int ca3), .val (.int ca4), .val (.int b0), .val (.int b1), .val (.int lb), .unset, .unset, .unset, .unset, .unset]) at_95 rfl ?_
    refine Go.iload K (q := 99) rfl at_97 rfl ?_
    refine Go.iload K (q := 101) rfl at_99 rfl ?_
    refine Go.iload K (q := 103) rfl at_101 rfl ?_
    refine Go.cS K (q := 106) rfl (y := (⟨"com/example/mirror_tables/mirrortables/query/TokenIsSymbolPinLaw", "make", "(ICC)Ljava/lang/String;"⟩ : MethodName)) (c_mk l Z a0 hw xs n0 h (Nat.le_trans Z0 E0.1) la2 ca3 ca4 hA0 hA1 z (Sa.ext E0) hz) (hw _ (List.mem_of_getElem? (i := 0) rfl)) (hw _ (List.mem_of_getElem? (i := 1) rfl)) (hw _ (List.mem_of_getElem? (i := 2) rfl)) (hw _ (List.mem_of_getElem? (i := 3) rfl)) (by decide) pd6 (argsL := [(.int la2), (.int ca3), (.int ca4)]) (rest := []) rfl rfl rfl rfl (W := 0) (Nat.le_of_eq rfl) (by decide) (by decide) at_103 (cells' := 3) (slots' := 8) rfl rfl (by decide) (by decide) ?_
    intro r6 h5 hQ sz_h5
    obtain ⟨s1, rfl, N_s1, S_s1⟩ := hQ
    have E0 := Ext.trans E0 N_s1
    show Go p l e _ s m _ below meth c _ _ _ _ _ _ _ _ _ h5 3 8 (mkF m 106 #[.val (.int kk), .val (.int a), .val (.int b), .val (.int lens), .val (.int mix), .val (.int pos), .val (.int kd1), .val (.int la2), .val (.int ca3), .val (.int ca4), .val (.int b0), .val (.int b1), .val (.int lb), .unset, .unset, .unset, .unset, .unset] [(.ref s1)])
    refine Go.astore K (q := 108) rfl (L' := #[.val (.int kk), .val (.int a), .val (.int b), .val (.int lens), .val (.int mix), .val (.int pos), .val (.int kd1), .val (.int la2), .val (.int ca3), .val (.int ca4), .val (.int b0), .val (.int b1), .val (.int lb), .val (.ref s1), .unset, .unset, .unset, .unset]) at_106 rfl rfl ?_
    refine Go.iload K (q := 110) rfl at_108 rfl ?_
    refine Go.iload K (q := 112) rfl at_110 rfl ?_
    refine Go.iload K (q := 114) rfl at_112 rfl ?_
    refine Go.cS K (q := 117) rfl (y := (⟨"com/example/mirror_tables/mirrortables/query/TokenIsSymbolPinLaw", "make", "(ICC)Ljava/lang/String;"⟩ : MethodName)) (c_mk l Z a0 hw xs n0 h5 (Nat.le_trans Z0 E0.1) lb b0 b1 hB0 hB1 z (Sa.ext E0) hz) (hw _ (List.mem_of_getElem? (i := 0) rfl)) (hw _ (List.mem_of_getElem? (i := 1) rfl)) (hw _ (List.mem_of_getElem? (i := 2) rfl)) (hw _ (List.mem_of_getElem? (i := 3) rfl)) (by decide) pd6 (argsL := [(.int lb), (.int b0), (.int b1)]) (rest := []) rfl rfl rfl rfl (W := 0) (Nat.le_of_eq rfl) (by decide) (by decide) at_114 (cells' := 6) (slots' := 16) rfl rfl (by decide) (by decide) ?_
    intro r8 h7 hQ sz_h7
    obtain ⟨s2, rfl, N_s2, S_s2⟩ := hQ
    have E0 := Ext.trans E0 N_s2
    show Go p l e _ s m _ below meth c _ _ _ _ _ _ _ _ _ h7 6 16 (mkF m 117 #[.val (.int kk), .val (.int a), .val (.int b), .val (.int lens), .val (.int mix), .val (.int pos), .val (.int kd1), .val (.int la2), .val (.int ca3), .val (.int ca4), .val (.int b0), .val (.int b1), .val (.int lb), .val (.ref s1), .unset, .unset, .unset, .unset] [(.ref s2)])
    have S_s1 := S_s1.ext N_s2
    refine Go.astore K (q := 119) rfl (L' := #[.val (.int kk), .val (.int a), .val (.int b), .val (.int lens), .val (.int mix), .val (.int pos), .val (.int kd1), .val (.int la2), .val (.int ca3), .val (.int ca4), .val (.int b0), .val (.int b1), .val (.int lb), .val (.ref s1), .val (.ref s2), .unset, .unset, .unset]) at_117 rfl rfl ?_
    refine Go.iload K (q := 121) rfl at_119 rfl ?_
    refine Go.bipush K (q := 123) rfl (v := (16 : Int32)) (by decide) at_121 ?_
    refine Go.iand K (q := 124) rfl at_123 ?_
    have E1 := Ext.refl h7
    show Go p l e _ s m _ below meth c _ _ _ _ _ _ _ _ _ h7 6 16 (mkF m 124 #[.val (.int kk), .val (.int a), .val (.int b), .val (.int lens), .val (.int mix), .val (.int pos), .val (.int kd1), .val (.int la2), .val (.int ca3), .val (.int ca4), .val (.int b0), .val (.int b1), .val (.int lb), .val (.ref s1), .val (.ref s2), .unset, .unset, .unset] [(.int (mix &&& (16 : Int32)))])
    have key136 : ∀ (ov : Value) (hv : Heap), ov.isRef = true → Ext h7 hv → Go p l e room_1 s m #[(.int kk), (.int a), (.int b), (.int lens), (.int mix), (.int pos)] below meth c Z "com/example/mirror_tables/mirrortables/query/TokenIsSymbolPinLaw" consts_1 xs n0 room_1.cells room_1.slots (fun v h' => v = some (.int 1)) xs hv 7 17 (mkF m 136 #[.val (.int kk), .val (.int a), .val (.int b), .val (.int lens), .val (.int mix), .val (.int pos), .val (.int kd1), .val (.int la2), .val (.int ca3), .val (.int ca4), .val (.int b0), .val (.int b1), .val (.int lb), .val (.ref s1), .val (.ref s2), .unset, .unset, .unset] [ov]) := by
      intro ov hv hov N_v
      have E0 := Ext.trans E0 N_v
      have E1 := Ext.trans E1 N_v
      have S_s1 := S_s1.ext N_v
      have S_s2 := S_s2.ext N_v
      refine Go.astore K (q := 138) rfl (L' := #[.val (.int kk), .val (.int a), .val (.int b), .val (.int lens), .val (.int mix), .val (.int pos), .val (.int kd1), .val (.int la2), .val (.int ca3), .val (.int ca4), .val (.int b0), .val (.int b1), .val (.int lb), .val (.ref s1), .val (.ref s2), .val ov, .unset, .unset]) at_136 hov (own_sl hov _ _ _ _ _ _ _ _ _ _ _ _ _ _ _) ?_
      refine Go.new K (q := 141) rfl (hw _ (List.mem_of_getElem? (i := 33) rfl)) (hw _ (List.mem_of_getElem? (i := 34) rfl)) (hw _ (List.mem_of_getElem? (i := 35) rfl)) at_138 (cells' := 8) (slots' := 21) rfl rfl (by decide) (by decide) ?_
      intro h9 tk g_tk N_tk X_tk D_tk
      have ge_E0_tk : h.size ≤ tk := Nat.le_trans E0.1 (Nat.le_of_eq g_tk.symm)
      have ge_E1_tk : h7.size ≤ tk := Nat.le_trans E1.1 (Nat.le_of_eq g_tk.symm)
      have E0 := Ext.trans E0 N_tk
      have E1 := Ext.trans E1 N_tk
      have F0 : Fld Z h9 tk "com/example/mirror_tables/mirrortables/query/JpqlLexer$Token" "kind" "Lcom/example/mirror_tables/mirrortables/query/JpqlLexer$Kind;" .null := D_tk (Or.inr (hw _ (List.mem_of_getElem? (i := 52) rfl))) (ty := .object "com/example/mirror_tables/mirrortables/query/JpqlLexer$Kind") (by decide)
      have F1 : Fld Z h9 tk "com/example/mirror_tables/mirrortables/query/JpqlLexer$Token" "text" "Ljava/lang/String;" .null := D_tk (Or.inr (hw _ (List.mem_of_getElem? (i := 54) rfl))) (ty := .object "java/lang/String") (by decide)
      have F2 : Fld Z h9 tk "com/example/mirror_tables/mirrortables/query/JpqlLexer$Token" "value" "Ljava/lang/Object;" .null := D_tk (Or.inr (hw _ (List.mem_of_getElem? (i := 56) rfl))) (ty := .object "java/lang/Object") (by decide)
      have F3 : Fld Z h9 tk "com/example/mirror_tables/mirrortables/query/JpqlLexer$Token" "position" "I" (.int (0 : Int32)) := D_tk (Or.inr (hw _ (List.mem_of_getElem? (i := 58) rfl))) (ty := .int) (by decide)
      have n_tk : n0 ≤ tk := Nat.le_trans Z0 ge_E0_tk
      have S_s1 := S_s1.ext N_tk
      have S_s2 := S_s2.ext N_tk
      refine Go.dup K (q := 142) rfl at_141 rfl ?_
      refine Go.iload K (q := 144) rfl at_142 rfl ?_
      refine Go.cS K (q := 147) rfl (y := (⟨"com/example/mirror_tables/mirrortables/query/TokenIsSymbolPinLaw", "kindOf", "(I)Lcom/example/mirror_tables/mirrortables/query/JpqlLexer$Kind;"⟩ : MethodName)) (c_kind l Z a0 hw (tk :: xs) n0 h9 (Nat.le_trans Z0 E0.1) kd1 k_IDENTIFIER k_STRING k_NUMBER k_DATE_TIME k_NAMED_PARAMETER k_POSITIONAL_PARAMETER k_SYMBOL k_END (T_IDENTIFIER.ext E0) (T_STRING.ext E0) (T_NUMBER.ext E0) (T_DATE_TIME.ext E0) (T_NAMED_PARAMETER.ext E0) (T_POSITIONAL_PARAMETER.ext E0) (T_SYMBOL.ext E0) (T_END.ext E0)) (hw _ (List.mem_of_getElem? (i := 36) rfl)) (hw _ (List.mem_of_getElem? (i := 37) rfl)) (hw _ (List.mem_of_getElem? (i := 2) rfl)) (hw _ (List.mem_of_getElem? (i := 38) rfl)) (by decide) pd7 (argsL := [(.int kd1)]) (rest := [(.ref tk), (.ref tk)]) rfl rfl rfl rfl (W := 2) (Nat.le_of_eq rfl) (by decide) (by decide) at_144 (cells' := 8) (slots' := 21) rfl rfl (by decide) (by decide) ?_
      intro r11 h10 hQ sz_h10
      obtain ⟨rfl, rfl⟩ := hQ
      show Go p l e _ s m _ below meth c _ _ _ _ _ _ _ _ _ h9 8 21 (mkF m 147 #[.val (.int kk), .val (.int a), .val (.int b), .val (.int lens), .val (.int mix), .val (.int pos), .val (.int kd1), .val (.int la2), .val (.int ca3), .val (.int ca4), .val (.int b0), .val (.int b1), .val (.int lb), .val (.ref s1), .val (.ref s2), .val ov, .unset, .unset] [(.ref (own_kd k_IDENTIFIER k_STRING k_NUMBER k_DATE_TIME k_NAMED_PARAMETER k_POSITIONAL_PARAMETER k_SYMBOL k_END kd1)), (.ref tk), (.ref tk)])
      refine Go.aload K (q := 149) rfl at_147 rfl rfl ?_
      refine Go.aload K (q := 151) rfl at_149 rfl hov ?_
      refine Go.iload K (q := 153) rfl at_151 rfl ?_
      refine Go.cI K (q := 156) rfl (y := (⟨"com/example/mirror_tables/mirrortables/query/JpqlLexer$Token", "<init>", "(Lcom/example/mirror_tables/mirrortables/query/JpqlLexer$Kind;Ljava/lang/String;Ljava/lang/Object;I)V"⟩ : MethodName)) (c_tk l Z a0 hw (tk :: xs) n0 h9 (Nat.le_trans Z0 E0.1) tk _ s1 ov hov pos List.mem_cons_self n_tk X_tk F0 F1 F2 F3) rfl (hw _ (List.mem_of_getElem? (i := 42) rfl)) (hw _ (List.mem_of_getElem? (i := 43) rfl)) (hw _ (List.mem_of_getElem? (i := 35) rfl)) (hw _ (List.mem_of_getElem? (i := 44) rfl)) (by decide) (a := tk) pd8 (argsL := [(.ref (own_kd k_IDENTIFIER k_STRING k_NUMBER k_DATE_TIME k_NAMED_PARAMETER k_POSITIONAL_PARAMETER k_SYMBOL k_END kd1)), (.ref s1), ov, (.int pos)]) (rest := [(.ref tk)]) rfl rfl rfl rfl (W := 1) (Nat.le_of_eq rfl) (by decide) (by decide) at_153 (cells' := 8) (slots' := 21) rfl rfl (by decide) (by decide) ?_
      intro r13 h12 hQ sz_h12
      obtain ⟨rfl, KT, X2, G0, G1⟩ := hQ
      have E0 := Ext.keep E0 KT (allS ge_E0_tk all0)
      have E1 := Ext.keep E1 KT (allS ge_E1_tk all0)
      show Go p l e _ s m _ below meth c _ _ _ _ _ _ _ _ _ h12 8 21 (mkF m 156 #[.val (.int kk), .val (.int a), .val (.int b), .val (.int lens), .val (.int mix), .val (.int pos), .val (.int kd1), .val (.int la2), .val (.int ca3), .val (.int ca4), .val (.int b0), .val (.int b1), .val (.int lb), .val (.ref s1), .val (.ref s2), .val ov, .unset, .unset] [(.ref tk)])
      have S_s1 := S_s1.keepO X_tk (by decide) (hw _ (List.mem_of_getElem? (i := 34) rfl)) KT
      have S_s2 := S_s2.keepO X_tk (by decide) (hw _ (List.mem_of_getElem? (i := 34) rfl)) KT
      refine Go.astore K (q := 158) rfl (L' := #[.val (.int kk), .val (.int a), .val (.int b), .val (.int lens), .val (.int mix), .val (.int pos), .val (.int kd1), .val (.int la2), .val (.int ca3), .val (.int ca4), .val (.int b0), .val (.int b1), .val (.int lb), .val (.ref s1), .val (.ref s2), .val ov, .val (.ref tk), .unset]) at_156 rfl rfl ?_
      refine Go.iload K (q := 160) rfl at_158 rfl ?_
      refine Go.bipush K (q := 162) rfl (v := (6 : Int32)) (by decide) at_160 ?_
      show Go p l e _ s m _ below meth c _ _ _ _ _ _ _ _ _ h12 8 21 (mkF m 162 #[.val (.int kk), .val (.int a), .val (.int b), .val (.int lens), .val (.int mix), .val (.int pos), .val (.int kd1), .val (.int la2), .val (.int ca3), .val (.int ca4), .val (.int b0), .val (.int b1), .val (.int lb), .val (.ref s1), .val (.ref s2), .val ov, .val (.ref tk), .unset] [(.int (6 : Int32)), (.int kd1)])
      have key : ∀ ev : Int32, ev = (if own_kd k_IDENTIFIER k_STRING k_NUMBER k_DATE_TIME k_NAMED_PARAMETER k_POSITIONAL_PARAMETER k_SYMBOL k_END kd1 = k_SYMBOL ∧ own_mk la2 ca3 ca4 = own_mk lb b0 b1 then (1 : Int32) else 0) → Go p l e room_1 s m #[(.int kk), (.int a), (.int b), (.int lens), (.int mix), (.int pos)] below meth c Z "com/example/mirror_tables/mirrortables/query/TokenIsSymbolPinLaw" consts_1 xs n0 room_1.cells room_1.slots (fun v h' => v = some (.int 1)) (tk :: xs) h12 8 21 (mkF m 203 #[.val (.int kk), .val (.int a), .val (.int b), .val (.int lens), .val (.int mix), .val (.int pos), .val (.int kd1), .val (.int la2), .val (.int ca3), .val (.int ca4), .val (.int b0), .val (.int b1), .val (.int lb), .val (.ref s1), .val (.ref s2), .val ov, .val (.ref tk), .unset] [(.int ev)]) := by
        intro ev hev
        refine Go.istore K (q := 205) rfl (L' := #[.val (.int kk), .val (.int a), .val (.int b), .val (.int lens), .val (.int mix), .val (.int pos), .val (.int kd1), .val (.int la2), .val (.int ca3), .val (.int ca4), .val (.int b0), .val (.int b1), .val (.int lb), .val (.ref s1), .val (.ref s2), .val ov, .val (.ref tk), .val (.int ev)]) at_203 rfl ?_
        refine Go.aload K (q := 207) rfl at_205 rfl rfl ?_
        refine Go.aload K (q := 209) rfl at_207 rfl rfl ?_
        refine Go.cV K (q := 212) rfl (y := (⟨"com/example/mirror_tables/mirrortables/query/JpqlLexer$Token", "isSymbol", "(Ljava/lang/String;)Z"⟩ : MethodName)) (z := (⟨"com/example/mirror_tables/mirrortables/query/JpqlLexer$Token", "isSymbol", "(Ljava/lang/String;)Z"⟩ : MethodName)) (c_sym l Z a0 hw (tk :: xs) n0 h12 (Nat.le_trans Z0 E0.1) tk s2 _ k_SYMBOL s1 _ _ z (Sa.ext E0) hz (T_SYMBOL.ext E0) G0 G1 S_s1 S_s2) (hw _ (List.mem_of_getElem? (i := 59) rfl)) (hw _ (List.mem_of_getElem? (i := 60) rfl)) (nfS (hw _ (List.mem_of_getElem? (i := 62) rfl))) (hw _ (List.mem_of_getElem? (i := 62) rfl)) (hw _ (List.mem_of_getElem? (i := 61) rfl)) (hw _ (List.mem_of_getElem? (i := 35) rfl)) (hw _ (List.mem_of_getElem? (i := 63) rfl)) (by decide) X2 pd9 (argsL := [(.ref s2)]) (rest := []) rfl rfl rfl rfl (W := 0) (Nat.le_of_eq rfl) (by decide) (by decide) at_209 (cells' := 8) (slots' := 21) rfl rfl (by decide) (by decide) ?_
        intro r15 h14 hQ sz_h14
        obtain ⟨rfl, rfl⟩ := hQ
        show Go p l e _ s m _ below meth c _ _ _ _ _ _ _ _ _ h12 8 21 (mkF m 212 #[.val (.int kk), .val (.int a), .val (.int b), .val (.int lens), .val (.int mix), .val (.int pos), .val (.int kd1), .val (.int la2), .val (.int ca3), .val (.int ca4), .val (.int b0), .val (.int b1), .val (.int lb), .val (.ref s1), .val (.ref s2), .val ov, .val (.ref tk), .val (.int ev)] [(.int (if own_kd k_IDENTIFIER k_STRING k_NUMBER k_DATE_TIME k_NAMED_PARAMETER k_POSITIONAL_PARAMETER k_SYMBOL k_END kd1 = k_SYMBOL ∧ own_mk la2 ca3 ca4 = own_mk lb b0 b1 then (1 : Int32) else 0))])
        refine Go.iload K (q := 214) rfl at_212 rfl ?_
        refine Go.icmpN K (q := 217) rfl at_214 (show (if own_kd k_IDENTIFIER k_STRING k_NUMBER k_DATE_TIME k_NAMED_PARAMETER k_POSITIONAL_PARAMETER k_SYMBOL k_END kd1 = k_SYMBOL ∧ own_mk la2 ca3 ca4 = own_mk lb b0 b1 then (1 : Int32) else 0) = ev from hev.symm) ?_
        refine Go.iconst K (q := 218) rfl (v := (1 : Int32)) (by decide) at_217 ?_
        refine Go.goto K (q := 222) (by decide) (by decide) at_218 ?_
        exact Go.retN K (by simp) at_222 (by decide) (by decide) (fun _ q => (List.mem_cons_of_mem _ q)) (rfl)
      refine Go.icmp K (q := 202) (q' := 165) (by decide) (by decide) rfl at_162 (fun (g1 : ¬ kd1 = (6 : Int32)) => ?_) (fun (g1 : kd1 = (6 : Int32)) => ?_)
      · skip
        refine Go.iconst K (q := 203) rfl (v := (0 : Int32)) (by decide) at_202 ?_
        exact key _ (if_neg fun q => own_k0 hkd g1 d_IDENTIFIER d_STRING d_NUMBER d_DATE_TIME d_NAMED_PARAMETER d_POSITIONAL_PARAMETER d_END q.1).symm
      · skip
        refine Go.iload K (q := 167) rfl at_165 rfl ?_
        refine Go.iload K (q := 169) rfl at_167 rfl ?_
        refine Go.icmp K (q := 202) (q' := 172) (by decide) (by decide) rfl at_169 (fun (g2 : ¬ la2 = lb) => ?_) (fun (g2 : la2 = lb) => ?_)
        · skip
          refine Go.iconst K (q := 203) rfl (v := (0 : Int32)) (by decide) at_202 ?_
          exact key _ (if_neg fun q => own_m2 hla hlb g2 q.2).symm
        · skip
          refine Go.iload K (q := 174) rfl at_172 rfl ?_
          refine Go.iconst K (q := 175) rfl (v := (1 : Int32)) (by decide) at_174 ?_
          refine Go.icmp K (q := 185) (q' := 178) (by decide) (by decide) rfl at_175 (fun (g3 : la2 < (1 : Int32)) => ?_) (fun (g3 : ¬ la2 < (1 : Int32)) => ?_)
          · skip
            refine Go.iload K (q := 187) rfl at_185 rfl ?_
            refine Go.iconst K (q := 188) rfl (v := (2 : Int32)) (by decide) at_187 ?_
            refine Go.icmp K (q := 198) (q' := 191) (by decide) (by decide) rfl at_188 (fun (g5 : la2 < (2 : Int32)) => ?_) (fun (g5 : ¬ la2 < (2 : Int32)) => ?_)
            · skip
              refine Go.iconst K (q := 199) rfl (v := (1 : Int32)) (by decide) at_198 ?_
              refine Go.goto K (q := 203) (by decide) (by decide) at_199 ?_
              exact key _ (if_pos ⟨own_k6 hkd g1 d_IDENTIFIER d_STRING d_NUMBER d_DATE_TIME d_NAMED_PARAMETER d_POSITIONAL_PARAMETER d_END, own_m1 hla g2 (Or.inl g3) (Or.inl g5)⟩).symm
            · skip
              refine Go.iload K (q := 193) rfl at_191 rfl ?_
              refine Go.iload K (q := 195) rfl at_193 rfl ?_
              refine Go.icmp K (q := 202) (q' := 198) (by decide) (by decide) rfl at_195 (fun (g6 : ¬ ca4 = b1) => ?_) (fun (g6 : ca4 = b1) => ?_)
              · skip
                refine Go.iconst K (q := 203) rfl (v := (0 : Int32)) (by decide) at_202 ?_
                exact key _ (if_neg fun q => own_m4 hla g2 g5 g6 q.2).symm
              · skip
                refine Go.iconst K (q := 199) rfl (v := (1 : Int32)) (by decide) at_198 ?_
                refine Go.goto K (q := 203) (by decide) (by decide) at_199 ?_
                exact key _ (if_pos ⟨own_k6 hkd g1 d_IDENTIFIER d_STRING d_NUMBER d_DATE_TIME d_NAMED_PARAMETER d_POSITIONAL_PARAMETER d_END, own_m1 hla g2 (Or.inl g3) (Or.inr g6)⟩).symm
          · skip
            refine Go.iload K (q := 180) rfl at_178 rfl ?_
            refine Go.iload K (q := 182) rfl at_180 rfl ?_
            refine Go.icmp K (q := 202) (q' := 185) (by decide) (by decide) rfl at_182 (fun (g4 : ¬ ca3 = b0) => ?_) (fun (g4 : ca3 = b0) => ?_)
            · skip
              refine Go.iconst K (q := 203) rfl (v := (0 : Int32)) (by decide) at_202 ?_
              exact key _ (if_neg fun q => own_m3 hla g2 g3 g4 q.2).symm
            · skip
              refine Go.iload K (q := 187) rfl at_185 rfl ?_
              refine Go.iconst K (q := 188) rfl (v := (2 : Int32)) (by decide) at_187 ?_
              refine Go.icmp K (q := 198) (q' := 191) (by decide) (by decide) rfl at_188 (fun (g5 : la2 < (2 : Int32)) => ?_) (fun (g5 : ¬ la2 < (2 : Int32)) => ?_)
              · skip
                refine Go.iconst K (q := 199) rfl (v := (1 : Int32)) (by decide) at_198 ?_
                refine Go.goto K (q := 203) (by decide) (by decide) at_199 ?_
                exact key _ (if_pos ⟨own_k6 hkd g1 d_IDENTIFIER d_STRING d_NUMBER d_DATE_TIME d_NAMED_PARAMETER d_POSITIONAL_PARAMETER d_END, own_m1 hla g2 (Or.inr g4) (Or.inl g5)⟩).symm
              · skip
                refine Go.iload K (q := 193) rfl at_191 rfl ?_
                refine Go.iload K (q := 195) rfl at_193 rfl ?_
                refine Go.icmp K (q := 202) (q' := 198) (by decide) (by decide) rfl at_195 (fun (g6 : ¬ ca4 = b1) => ?_) (fun (g6 : ca4 = b1) => ?_)
                · skip
                  refine Go.iconst K (q := 203) rfl (v := (0 : Int32)) (by decide) at_202 ?_
                  exact key _ (if_neg fun q => own_m4 hla g2 g5 g6 q.2).symm
                · skip
                  refine Go.iconst K (q := 199) rfl (v := (1 : Int32)) (by decide) at_198 ?_
                  refine Go.goto K (q := 203) (by decide) (by decide) at_199 ?_
                  exact key _ (if_pos ⟨own_k6 hkd g1 d_IDENTIFIER d_STRING d_NUMBER d_DATE_TIME d_NAMED_PARAMETER d_POSITIONAL_PARAMETER d_END, own_m1 hla g2 (Or.inr g4) (Or.inr g6)⟩).symm
    refine Go.ifc K (q := 135) (q' := 127) (by decide) (by decide) rfl at_124 (fun (hv : (mix &&& (16 : Int32)) = (0 : Int32)) => ?_) (fun (hv : ¬ (mix &&& (16 : Int32)) = (0 : Int32)) => ?_)
    · skip
      refine Go.aconstNull K (q := 136) rfl at_135 ?_
      exact Go.more (Nat.le_add_right _ 1) (Nat.le_add_right _ 1) (key136 _ _ rfl (Ext.refl _))
    · skip
      refine Go.iload K (q := 129) rfl at_127 rfl ?_
      refine Go.cS K (q := 132) rfl (y := (⟨"java/lang/Integer", "valueOf", "(I)Ljava/lang/Integer;"⟩ : MethodName)) (c_iv l Z a0 hw xs n0 h7 (Nat.le_trans Z0 E0.1) pos ac (SH.ext E0) (SC.ext E0) (CA.ext E0)) (hw _ (List.mem_of_getElem? (i := 88) rfl)) (hw _ (List.mem_of_getElem? (i := 89) rfl)) (hw _ (List.mem_of_getElem? (i := 90) rfl)) (hw _ (List.mem_of_getElem? (i := 91) rfl)) (by decide) pd10 (argsL := [(.int pos)]) (rest := []) rfl rfl rfl rfl (W := 0) (Nat.le_of_eq rfl) (by decide) (by decide) at_129 (cells' := 7) (slots' := 17) rfl rfl (by decide) (by decide) ?_
      intro r17 h16 hQ sz_h16
      obtain ⟨bi, rfl, N_b, -, -⟩ := hQ
      have E0 := Ext.trans E0 N_b
      have E1 := Ext.trans E1 N_b
      show Go p l e _ s m _ below meth c _ _ _ _ _ _ _ _ _ h16 7 17 (mkF m 132 #[.val (.int kk), .val (.int a), .val (.int b), .val (.int lens), .val (.int mix), .val (.int pos), .val (.int kd1), .val (.int la2), .val (.int ca3), .val (.int ca4), .val (.int b0), .val (.int b1), .val (.int lb), .val (.ref s1), .val (.ref s2), .unset, .unset, .unset] [(.ref bi)])
      refine Go.goto K (q := 136) (by decide) (by decide) at_132 ?_
      exact key136 _ _ rfl N_b
  have key73 : ∀ b0 b1 : Int32, (¬ b0 < 0 ∧ ¬ (255 : Int32) < b0) → (¬ b1 < 0 ∧ ¬ (255 : Int32) < b1) → Go p l e room_1 s m #[(.int kk), (.int a), (.int b), (.int lens), (.int mix), (.int pos)] below meth c Z "com/example/mirror_tables/mirrortables/query/TokenIsSymbolPinLaw" consts_1 xs n0 room_1.cells room_1.slots (fun v h' => v = some (.int 1)) xs h 0 0 (mkF m 73 #[.val (.int kk), .val (.int a), .val (.int b), .val (.int lens), .val (.int mix), .val (.int pos), .val (.int kd1), .val (.int la2), .val (.int ca3), .val (.int ca4), .val (.int b0), .unset, .unset, .unset, .unset, .unset, .unset, .unset] [(.int b1)]) := by
    intro b0 b1 hB0 hB1
    refine Go.istore K (q := 75) rfl (L' := #[.val (.int kk), .val (.int a), .val (.int b), .val (.int lens), .val (.int mix), .val (.int pos), .val (.int kd1), .val (.int la2), .val (.int ca3), .val (.int ca4), .val (.int b0), .val (.int b1), .unset, .unset, .unset, .unset, .unset, .unset]) at_73 rfl ?_
    refine Go.iload K (q := 77) rfl at_75 rfl ?_
    refine Go.bipush K (q := 79) rfl (v := (8 : Int32)) (by decide) at_77 ?_
    refine Go.iand K (q := 80) rfl at_79 ?_
    refine Go.ifc K (q := 88) (q' := 83) (by decide) (by decide) rfl at_80 (fun (hb : (mix &&& (8 : Int32)) = (0 : Int32)) => ?_) (fun (hb : ¬ (mix &&& (8 : Int32)) = (0 : Int32)) => ?_)
    · skip
      refine Go.iloadN K (q := 89) rfl at_88 rfl ?_
      refine Go.iconst K (q := 90) rfl (v := (2 : Int32)) (by decide) at_89 ?_
      refine Go.iushr K (q := 91) rfl at_90 ?_
      refine Go.iconst K (q := 92) rfl (v := (3 : Int32)) (by decide) at_91 ?_
      refine Go.iand K (q := 93) rfl at_92 ?_
      refine Go.iconst K (q := 94) rfl (v := (3 : Int32)) (by decide) at_93 ?_
      refine Go.irem K (q := 95) rfl at_94 (by decide) ?_
      exact key95 _ _ _ hB0 hB1 (own_3 rfl)
    · skip
      refine Go.iload K (q := 85) rfl at_83 rfl ?_
      refine Go.goto K (q := 95) (by decide) (by decide) at_85 ?_
      exact key95 _ _ _ hB0 hB1 hla
  have key50 : ∀ b0 : Int32, (¬ b0 < 0 ∧ ¬ (255 : Int32) < b0) → Go p l e room_1 s m #[(.int kk), (.int a), (.int b), (.int lens), (.int mix), (.int pos)] below meth c Z "com/example/mirror_tables/mirrortables/query/TokenIsSymbolPinLaw" consts_1 xs n0 room_1.cells room_1.slots (fun v h' => v = some (.int 1)) xs h 0 0 (mkF m 50 #[.val (.int kk), .val (.int a), .val (.int b), .val (.int lens), .val (.int mix), .val (.int pos), .val (.int kd1), .val (.int la2), .val (.int ca3), .val (.int ca4), .unset, .unset, .unset, .unset, .unset, .unset, .unset, .unset] [(.int b0)]) := by
    intro b0 hB0
    refine Go.istore K (q := 52) rfl (L' := #[.val (.int kk), .val (.int a), .val (.int b), .val (.int lens), .val (.int mix), .val (.int pos), .val (.int kd1), .val (.int la2), .val (.int ca3), .val (.int ca4), .val (.int b0), .unset, .unset, .unset, .unset, .unset, .unset, .unset]) at_50 rfl ?_
    refine Go.iload K (q := 54) rfl at_52 rfl ?_
    refine Go.iconst K (q := 55) rfl (v := (4 : Int32)) (by decide) at_54 ?_
    refine Go.iand K (q := 56) rfl at_55 ?_
    refine Go.ifc K (q := 64) (q' := 59) (by decide) (by decide) rfl at_56 (fun (hb : (mix &&& (4 : Int32)) = (0 : Int32)) => ?_) (fun (hb : ¬ (mix &&& (4 : Int32)) = (0 : Int32)) => ?_)
    · skip
      refine Go.iloadN K (q := 65) rfl at_64 rfl ?_
      refine Go.bipush K (q := 67) rfl (v := (8 : Int32)) (by decide) at_65 ?_
      refine Go.iushr K (q := 68) rfl at_67 ?_
      refine Go.sipush K (q := 71) rfl (v := (255 : Int32)) (by decide) at_68 ?_
      refine Go.iand K (q := 72) rfl at_71 ?_
      refine Go.i2c K (q := 73) rfl at_72 ?_
      exact key73 _ _ hB0 (own_c8 _)
    · skip
      refine Go.iload K (q := 61) rfl at_59 rfl ?_
      refine Go.goto K (q := 73) (by decide) (by decide) at_61 ?_
      exact key73 _ _ hB0 hA1
  refine Go.iload K (q := 34) rfl at_32 rfl ?_
  refine Go.iconst K (q := 35) rfl (v := (2 : Int32)) (by decide) at_34 ?_
  refine Go.iand K (q := 36) rfl at_35 ?_
  refine Go.ifc K (q := 44) (q' := 39) (by decide) (by decide) rfl at_36 (fun (hb : (mix &&& (2 : Int32)) = (0 : Int32)) => ?_) (fun (hb : ¬ (mix &&& (2 : Int32)) = (0 : Int32)) => ?_)
  · skip
    refine Go.iloadN K (q := 45) rfl at_44 rfl ?_
    refine Go.sipush K (q := 48) rfl (v := (255 : Int32)) (by decide) at_45 ?_
    refine Go.iand K (q := 49) rfl at_48 ?_
    refine Go.i2c K (q := 50) rfl at_49 ?_
    exact key50 _ (own_c8 _)
  · skip
    refine Go.iload K (q := 41) rfl at_39 rfl ?_
    refine Go.goto K (q := 50) (by decide) (by decide) at_41 ?_
    exact key50 _ hA0
set_option maxRecDepth 65536 in
set_option maxHeartbeats 40000000 in
theorem comes_1 {Post : Tables → Env → Array Value → State → Outcome → State → Prop} (hpost : ∀ tb e args s v u, (limb_1_1.after args s (.returned v) u = true ∧ limb_1_2.after args s (.returned v) u = true ∧ True) → ReturnedEndW s (.returned v) u (Jvm.fieldLocs frame_1_writes args s ++ Jvm.arrayLocs frame_1_arrays args s ++ Jvm.staticLocs frame_1_statics s) 32 1152 → Post tb e args s (.returned v) u) :
    ArmFor flags0 classFile x code maxLocals ret World_1 tables_1 room_1 Calls_1 rest_1 Pre_1 Post := by
  intro l hfl _ _ p e ha hc hk s m args below hf hA hF happ hP
  obtain ⟨hcalls, hrest, hpre⟩ := hP
  obtain ⟨-, -, -, hnamed, -, -, -, hat⟩ := (Spec.applies_iff hf).mp happ
  obtain ⟨hg, hn⟩ := and_e (Cond.before_iff.mp (show (Jvm.Cond.and given_1 narrow_1).before args s = true from hpre))
  obtain ⟨h1, k0⟩ := and_e hg
  obtain ⟨g0, k1⟩ := and_e k0
  obtain ⟨g1, k2⟩ := and_e k1
  obtain ⟨g2, k3⟩ := and_e k2
  obtain ⟨g3, k4⟩ := and_e k3
  obtain ⟨g4, k5⟩ := and_e k4
  obtain ⟨w0, w1, w2, w3, w4, w5, rfl⟩ : ∃ w0 w1 w2 w3 w4 w5 : Value, args = #[w0, w1, w2, w3, w4, w5] := by
    have hs : args.size = 6 := by simpa [Cond.value, given_1] using h1
    obtain ⟨L⟩ := args
    match L, hs with
    | [w0, w1, w2, w3, w4, w5], _ => exact ⟨w0, w1, w2, w3, w4, w5, rfl⟩
  have hw := fun d (hd : d ∈ tables_1) => atoms_spec (ws := Jvm.Cond.code x code maxLocals ret :: tables_1) hat d (List.mem_cons_of_mem _ hd)
  obtain ⟨hsets, hown0⟩ := atoms_of _ (rest_1_c_eq ▸ (show rest_1_c.before _ s = true from hrest))
  have hfit : Fit s := fun {y c} hc i hi => by
    obtain ⟨ha, rfl⟩ := Array.getElem?_eq_some_iff.mp hc
    have q := List.all_eq_true.mp ((Array.all_eq_true_iff_forall_mem.mp hF) _ (Array.getElem_mem ha)) i (List.mem_range.mpr hi)
    simpa [Array.getElem?_eq_getElem hi] using q
  obtain ⟨i0, q0⟩ := is_v g0
  obtain rfl : w0 = (.int i0) := Option.some.inj q0
  obtain ⟨i1, q1⟩ := is_v g1
  obtain rfl : w1 = (.int i1) := Option.some.inj q1
  obtain ⟨i2, q2⟩ := is_v g2
  obtain rfl : w2 = (.int i2) := Option.some.inj q2
  obtain ⟨i3, q3⟩ := is_v g3
  obtain rfl : w3 = (.int i3) := Option.some.inj q3
  obtain ⟨i4, q4⟩ := is_v g4
  obtain rfl : w4 = (.int i4) := Option.some.inj q4
  obtain ⟨i5, q5⟩ := is_v k5
  obtain rfl : w5 = (.int i5) := Option.some.inj q5
  have n5 := not_v (Cond.before_iff.mp (hsets _ (List.mem_of_getElem? (i := 2) rfl)))
  obtain ⟨zs, ez⟩ := is_v (Cond.before_iff.mp (hsets _ (List.mem_of_getElem? (i := 1) rfl)))
  have Sa : Sta s s.heap "java/lang/String" "COMPACT_STRINGS" "Z" (.int zs) := Sta.start ez (Or.inl (hsets _ (List.mem_of_getElem? (i := 0) rfl)))
  have hz : ¬ (zs = (0 : Int32)) := gotF (Cond.eq_ints ez (Term.int_eval (0))) n5
  obtain ⟨x_IDENTIFIER, hn⟩ := and_e hn
  obtain ⟨x_SYMBOL, hn⟩ := and_e hn
  obtain ⟨o_IDENTIFIER, hn⟩ := and_e hn
  obtain ⟨o_SYMBOL, hn⟩ := and_e hn
  obtain ⟨x_NAMED_PARAMETER, hn⟩ := and_e hn
  obtain ⟨o_NAMED_PARAMETER, hn⟩ := and_e hn
  obtain ⟨x_POSITIONAL_PARAMETER, hn⟩ := and_e hn
  obtain ⟨o_POSITIONAL_PARAMETER, hn⟩ := and_e hn
  obtain ⟨x_END, hn⟩ := and_e hn
  obtain ⟨o_END, hn⟩ := and_e hn
  obtain ⟨x_NUMBER, hn⟩ := and_e hn
  obtain ⟨o_NUMBER, hn⟩ := and_e hn
  obtain ⟨x_DATE_TIME, hn⟩ := and_e hn
  obtain ⟨o_DATE_TIME, hn⟩ := and_e hn
  obtain ⟨x_STRING, hn⟩ := and_e hn
  have o_STRING := hn
  obtain ⟨k_IDENTIFIER, ek_IDENTIFIER⟩ := exa_v x_IDENTIFIER
  have T_IDENTIFIER : Sta s s.heap "com/example/mirror_tables/mirrortables/query/JpqlLexer$Kind" "IDENTIFIER" "Lcom/example/mirror_tables/mirrortables/query/JpqlLexer$Kind;" (.ref k_IDENTIFIER) := Sta.start ek_IDENTIFIER (Or.inr ⟨(hw _ (List.mem_of_getElem? (i := 40) rfl)), (hw _ (List.mem_of_getElem? (i := 41) rfl))⟩)
  obtain ⟨k_SYMBOL, ek_SYMBOL⟩ := exa_v x_SYMBOL
  have T_SYMBOL : Sta s s.heap "com/example/mirror_tables/mirrortables/query/JpqlLexer$Kind" "SYMBOL" "Lcom/example/mirror_tables/mirrortables/query/JpqlLexer$Kind;" (.ref k_SYMBOL) := Sta.start ek_SYMBOL (Or.inr ⟨(hw _ (List.mem_of_getElem? (i := 40) rfl)), (hw _ (List.mem_of_getElem? (i := 65) rfl))⟩)
  obtain ⟨k_NAMED_PARAMETER, ek_NAMED_PARAMETER⟩ := exa_v x_NAMED_PARAMETER
  have T_NAMED_PARAMETER : Sta s s.heap "com/example/mirror_tables/mirrortables/query/JpqlLexer$Kind" "NAMED_PARAMETER" "Lcom/example/mirror_tables/mirrortables/query/JpqlLexer$Kind;" (.ref k_NAMED_PARAMETER) := Sta.start ek_NAMED_PARAMETER (Or.inr ⟨(hw _ (List.mem_of_getElem? (i := 40) rfl)), (hw _ (List.mem_of_getElem? (i := 67) rfl))⟩)
  obtain ⟨k_POSITIONAL_PARAMETER, ek_POSITIONAL_PARAMETER⟩ := exa_v x_POSITIONAL_PARAMETER
  have T_POSITIONAL_PARAMETER : Sta s s.heap "com/example/mirror_tables/mirrortables/query/JpqlLexer$Kind" "POSITIONAL_PARAMETER" "Lcom/example/mirror_tables/mirrortables/query/JpqlLexer$Kind;" (.ref k_POSITIONAL_PARAMETER) := Sta.start ek_POSITIONAL_PARAMETER (Or.inr ⟨(hw _ (List.mem_of_getElem? (i := 40) rfl)), (hw _ (List.mem_of_getElem? (i := 69) rfl))⟩)
  obtain ⟨k_END, ek_END⟩ := exa_v x_END
  have T_END : Sta s s.heap "com/example/mirror_tables/mirrortables/query/JpqlLexer$Kind" "END" "Lcom/example/mirror_tables/mirrortables/query/JpqlLexer$Kind;" (.ref k_END) := Sta.start ek_END (Or.inr ⟨(hw _ (List.mem_of_getElem? (i := 40) rfl)), (hw _ (List.mem_of_getElem? (i := 96) rfl))⟩)
  obtain ⟨k_NUMBER, ek_NUMBER⟩ := exa_v x_NUMBER
  have T_NUMBER : Sta s s.heap "com/example/mirror_tables/mirrortables/query/JpqlLexer$Kind" "NUMBER" "Lcom/example/mirror_tables/mirrortables/query/JpqlLexer$Kind;" (.ref k_NUMBER) := Sta.start ek_NUMBER (Or.inr ⟨(hw _ (List.mem_of_getElem? (i := 40) rfl)), (hw _ (List.mem_of_getElem? (i := 98) rfl))⟩)
  obtain ⟨k_DATE_TIME, ek_DATE_TIME⟩ := exa_v x_DATE_TIME
  have T_DATE_TIME : Sta s s.heap "com/example/mirror_tables/mirrortables/query/JpqlLexer$Kind" "DATE_TIME" "Lcom/example/mirror_tables/mirrortables/query/JpqlLexer$Kind;" (.ref k_DATE_TIME) := Sta.start ek_DATE_TIME (Or.inr ⟨(hw _ (List.mem_of_getElem? (i := 40) rfl)), (hw _ (List.mem_of_getElem? (i := 121) rfl))⟩)
  obtain ⟨k_STRING, ek_STRING⟩ := exa_v x_STRING
  have T_STRING : Sta s s.heap "com/example/mirror_tables/mirrortables/query/JpqlLexer$Kind" "STRING" "Lcom/example/mirror_tables/mirrortables/query/JpqlLexer$Kind;" (.ref k_STRING) := Sta.start ek_STRING (Or.inr ⟨(hw _ (List.mem_of_getElem? (i := 40) rfl)), (hw _ (List.mem_of_getElem? (i := 123) rfl))⟩)
  have O_IDENTIFIER : Fld s s.heap k_IDENTIFIER "java/lang/Enum" "ordinal" "I" (.int (0 : Int32)) := Fld.start ((fld_at ek_IDENTIFIER).symm.trans (Cond.eq_int (Cond.before_iff.mpr o_IDENTIFIER) rfl))
  have O_SYMBOL : Fld s s.heap k_SYMBOL "java/lang/Enum" "ordinal" "I" (.int (6 : Int32)) := Fld.start ((fld_at ek_SYMBOL).symm.trans (Cond.eq_int (Cond.before_iff.mpr o_SYMBOL) rfl))
  have O_NAMED_PARAMETER : Fld s s.heap k_NAMED_PARAMETER "java/lang/Enum" "ordinal" "I" (.int (4 : Int32)) := Fld.start ((fld_at ek_NAMED_PARAMETER).symm.trans (Cond.eq_int (Cond.before_iff.mpr o_NAMED_PARAMETER) rfl))
  have O_POSITIONAL_PARAMETER : Fld s s.heap k_POSITIONAL_PARAMETER "java/lang/Enum" "ordinal" "I" (.int (5 : Int32)) := Fld.start ((fld_at ek_POSITIONAL_PARAMETER).symm.trans (Cond.eq_int (Cond.before_iff.mpr o_POSITIONAL_PARAMETER) rfl))
  have O_END : Fld s s.heap k_END "java/lang/Enum" "ordinal" "I" (.int (7 : Int32)) := Fld.start ((fld_at ek_END).symm.trans (Cond.eq_int (Cond.before_iff.mpr o_END) rfl))
  have O_NUMBER : Fld s s.heap k_NUMBER "java/lang/Enum" "ordinal" "I" (.int (2 : Int32)) := Fld.start ((fld_at ek_NUMBER).symm.trans (Cond.eq_int (Cond.before_iff.mpr o_NUMBER) rfl))
  have O_DATE_TIME : Fld s s.heap k_DATE_TIME "java/lang/Enum" "ordinal" "I" (.int (3 : Int32)) := Fld.start ((fld_at ek_DATE_TIME).symm.trans (Cond.eq_int (Cond.before_iff.mpr o_DATE_TIME) rfl))
  have O_STRING : Fld s s.heap k_STRING "java/lang/Enum" "ordinal" "I" (.int (1 : Int32)) := Fld.start ((fld_at ek_STRING).symm.trans (Cond.eq_int (Cond.before_iff.mpr o_STRING) rfl))
  obtain ⟨ac, SH, SC, CA⟩ := cache_start (a0 := _) (a1 := _) (fun d hd => by
    simp only [Jvm.Free.IntBox.intClinit, List.mem_cons, List.not_mem_nil, or_false] at hd
    rcases hd with rfl | rfl | rfl | rfl | rfl | rfl | rfl | rfl
    · exact hsets _ (List.mem_of_getElem? (i := 9) rfl)
    · exact hsets _ (List.mem_of_getElem? (i := 10) rfl)
    · exact hsets _ (List.mem_of_getElem? (i := 11) rfl)
    · exact hsets _ (List.mem_of_getElem? (i := 12) rfl)
    · exact hsets _ (List.mem_of_getElem? (i := 13) rfl)
    · exact hsets _ (List.mem_of_getElem? (i := 14) rfl)
    · exact hsets _ (List.mem_of_getElem? (i := 15) rfl)
    · exact hsets _ (List.mem_of_getElem? (i := 16) rfl)) (hw _ (List.mem_of_getElem? (i := 113) rfl))
  have wa : (Jvm.Cond.arrayClass .byte).before _ s = true := hw _ (by decide +kernel)
  have wi : (Jvm.Cond.instantiable "java/lang/String" 4).before _ s = true := hw _ (by decide +kernel)
  have HL : Lits s consts_1 [] s.vm s.heap := Lits.start (a0 := _) (fun q hq => hcalls.1 q hq) (fun q hq => by
    simp only [consts_1, List.mem_cons, List.not_mem_nil, or_false] at hq
    rcases hq with rfl
    · exact ⟨"", (hw _ (List.mem_of_getElem? (i := 30) rfl)), by decide⟩) (hsets _ (List.mem_of_getElem? (i := 2) rfl)) wa wi
  obtain ⟨n, o, h1, h2, h3, _, L, rfl, ⟨rfl, -, N⟩, hq⟩ := rm0 l s _ hw tables_1 [] s.heap.size s.heap (Nat.le_refl _) i0 i1 i2 i3 i4 i5 zs Sa hz k_IDENTIFIER k_STRING k_NUMBER k_DATE_TIME k_NAMED_PARAMETER k_POSITIONAL_PARAMETER k_SYMBOL k_END T_IDENTIFIER T_STRING T_NUMBER T_DATE_TIME T_NAMED_PARAMETER T_POSITIONAL_PARAMETER T_SYMBOL T_END ac SH SC CA (Fld.ne O_IDENTIFIER O_SYMBOL (by decide)) (Fld.ne O_STRING O_SYMBOL (by decide)) (Fld.ne O_NUMBER O_SYMBOL (by decide)) (Fld.ne O_DATE_TIME O_SYMBOL (by decide)) (Fld.ne O_NAMED_PARAMETER O_SYMBOL (by decide)) (Fld.ne O_POSITIONAL_PARAMETER O_SYMBOL (by decide)) (Fld.ne O_END O_SYMBOL (by decide)) p e ha hc hk s m _ below hf ((Spec.applies_iff_loose hf).mp happ).1 ⟨rfl, State.Warmed39.refl s, rfl, HL⟩ trivial
  refine ⟨n, _, h1, h2, h3, hpost _ _ _ _ _ _ ⟨Cond.after_iff.mpr rfl, Cond.after_iff.mpr (eq_i res_at (Term.int_eval (1)) rfl), trivial⟩ ⟨hq.1, hq.2.1, hq.2.2.1, (hq.2.2.2.sift fun y hy => Or.inr (N y hy)).mono (by decide) (by decide)⟩⟩
theorem main_1_1 : Claimed_1_1 := comes_1 fun _ _ _ _ _ _ h hF => ⟨h.1, hF⟩
theorem main_1_2 : Claimed_1_2 := comes_1 fun _ _ _ _ _ _ h hF => ⟨h.2.1, hF⟩
end Jvm.Pilot.@@N@@
namespace Jvm.Pilot.@@N@@
open Jvm Jvm.ClassFile Sem Op Lib Jvm.Free Jvm.Stand Jvm.Pilot.@@N@@.Jvm.D
/-! MADE BY PROGRAM (witnessworld.py) out of the Statement's table words and the real class files: 27 classes; the members and pool entries that the words name. The judged class is class 1, her method 3. -/
namespace start1
open Jvm.ClassFile
def u (s : String) : CpInfo := .utf8 (stringToUtf16 s)
/-- a pool by its gaps: so many unusable entries, then the entry; so many at the end -/
def gap : Nat → List CpInfo → List CpInfo
  | 0, r => r
  | n + 1, r => .unusable :: gap n r
def poolList (es : List (Nat × CpInfo)) (last : Nat) : List CpInfo := es.foldr (fun e r => gap e.1 (e.2 :: r)) (gap last [])
def pool (es : List (Nat × CpInfo)) (last : Nat) : Array CpInfo := ⟨poolList es last⟩
def fileOf (pool : Array CpInfo) (this : Nat) (attrs : Array Attribute := #[]) (ms : Array MethodInfo := #[]) (fl : Nat := 33) (sup : Nat := 0) (ifs : Array Nat := #[]) (fds : Array FieldInfo := #[]) : ClassFile where
  minorVersion := 0
  majorVersion := 65
  constantPool := pool
  accessFlags := fl
  thisClass := this
  superClass := sup
  interfaces := ifs
  fields := fds
  methods := ms
  attributes := attrs
def plain (name : String) (sup : Option ClassId) : Class where
  name := name
  kind := .ordinary
  loader := none
  accessFlags := 33
  super := sup
  interfaces := #[]
  cf := none
  fields := #[]
  methods := #[]
  instanceTypes := #[]
  staticTypes := #[]
  resolved := #[]
  callSites := []
  init := .initialized
  statics := none
  mirror := none

def pool0 : Array CpInfo := pool [(5, u "<init>"), (0, u "()V"), (1, .class_ 10), (1, u "java/lang/Object")] 113

def k0c0 : Code := { maxStack := 0, maxLocals := 1, code := object_method_1_code, exceptionTable := #[], attributes := #[] }
def k0m0 : Method := { name := "<init>", desc := "()V", sig := { parameters := [], returnType := none }, accessFlags := 1, code := some k0c0 }
/-- java/lang/Object -/
def k0 : Class := { plain "java/lang/Object" none with
  accessFlags := 33
  interfaces := #[]
  cf := some (fileOf pool0 8 #[] #[{ accessFlags := 1, nameIndex := 5, descriptorIndex := 6, attributes := #[] }] 33 0 #[] #[])
  fields := #[]
  methods := #[k0m0]
  instanceTypes := #[]
  staticTypes := #[]
  resolved := Array.replicate 124 none
  statics := none }

def pool1 : Array CpInfo := pool [(2, .class_ 4), (1, u "java/lang/Object"), (0, u "<init>"), (0, u "()V"), (0, .fieldref 8 9), (0, .class_ 10), (0, .nameAndType 11 12), (0, u "com/example/mirror_tables/mirrortables/query/JpqlLexer$Kind"), (0, u "IDENTIFIER"), (0, u "Lcom/example/mirror_tables/mirrortables/query/JpqlLexer$Kind;"), (0, .fieldref 8 14), (0, .nameAndType 15 12), (0, u "STRING"), (0, .fieldref 8 17), (0, .nameAndType 18 12), (0, u "NUMBER"), (0, .fieldref 8 20), (0, .nameAndType 21 12), (0, u "DATE_TIME"), (0, .fieldref 8 23), (0, .nameAndType 24 12), (0, u "NAMED_PARAMETER"), (0, .fieldref 8 26), (0, .nameAndType 27 12), (0, u "POSITIONAL_PARAMETER"), (0, .fieldref 8 29), (0, .nameAndType 30 12), (0, u "SYMBOL"), (0, .fieldref 8 32), (0, .nameAndType 33 12), (0, u "END"), (0, .string 35), (0, u ""), (0, .methodref 37 38), (0, .class_ 39), (0, .nameAndType 40 41), (0, u "java/lang/String"), (0, u "valueOf"), (0, u "(C)Ljava/lang/String;"), (0, .methodref 37 43), (0, .nameAndType 5 44), (0, u "([C)V"), (0, .methodref 46 47), (0, .class_ 48), (0, .nameAndType 49 50), (0, u "com/example/mirror_tables/mirrortables/query/TokenIsSymbolPinLaw"), (0, u "make"), (0, u "(ICC)Ljava/lang/String;"), (0, .methodref 52 53), (0, .class_ 54), (0, .nameAndType 40 55), (0, u "java/lang/Integer"), (0, u "(I)Ljava/lang/Integer;"), (0, .class_ 57), (0, u "com/example/mirror_tables/mirrortables/query/JpqlLexer$Token"), (0, .methodref 46 59), (0, .nameAndType 60 61), (0, u "kindOf"), (0, u "(I)Lcom/example/mirror_tables/mirrortables/query/JpqlLexer$Kind;"), (0, .methodref 56 63), (0, .nameAndType 5 64), (0, u "(Lcom/example/mirror_tables/mirrortables/query/JpqlLexer$Kind;Ljava/lang/String;Ljava/lang/Object;I)V"), (0, .methodref 56 66), (0, .nameAndType 67 68), (0, u "isSymbol"), (0, u "(Ljava/lang/String;)Z"), (3, u "law"), (0, u "(IIIIII)Z")] 7

def k1m0 : Method := { name := "<init>", desc := "()V", sig := { parameters := [], returnType := none }, accessFlags := 1, code := none }
def k1c1 : Code := { maxStack := 2, maxLocals := 2, code := method_2_code, exceptionTable := #[], attributes := #[] }
def k1m1 : Method := { name := "kindOf", desc := "(I)Lcom/example/mirror_tables/mirrortables/query/JpqlLexer$Kind;", sig := { parameters := [.int], returnType := some (.object "com/example/mirror_tables/mirrortables/query/JpqlLexer$Kind") }, accessFlags := 10, code := some k1c1 }
def k1c2 : Code := { maxStack := 6, maxLocals := 4, code := method_3_code, exceptionTable := #[], attributes := #[] }
def k1m2 : Method := { name := "make", desc := "(ICC)Ljava/lang/String;", sig := { parameters := [.int, .char, .char], returnType := some (.object "java/lang/String") }, accessFlags := 10, code := some k1c2 }
def k1c3 : Code := { maxStack := 6, maxLocals := 18, code := code, exceptionTable := #[], attributes := #[] }
def k1m3 : Method := { name := "law", desc := "(IIIIII)Z", sig := { parameters := [.int, .int, .int, .int, .int, .int], returnType := some .boolean }, accessFlags := 9, code := some k1c3 }
/-- com/example/mirror_tables/mirrortables/query/TokenIsSymbolPinLaw -/
def k1 : Class := { plain "com/example/mirror_tables/mirrortables/query/TokenIsSymbolPinLaw" (some 0) with
  accessFlags := 49
  interfaces := #[]
  cf := some (fileOf pool1 46 #[] #[{ accessFlags := 1, nameIndex := 5, descriptorIndex := 6, attributes := #[] }, { accessFlags := 10, nameIndex := 60, descriptorIndex := 61, attributes := #[] }, { accessFlags := 10, nameIndex := 49, descriptorIndex := 50, attributes := #[] }, { accessFlags := 9, nameIndex := 72, descriptorIndex := 73, attributes := #[] }] 49 2 #[] #[])
  fields := #[]
  methods := #[k1m0, k1m1, k1m2, k1m3]
  instanceTypes := #[]
  staticTypes := #[]
  resolved := Array.replicate 81 none
  statics := none }

def pool2 : Array CpInfo := pool [(1, .class_ 2), (0, u "java/io/Serializable"), (0, .class_ 4), (0, u "java/lang/Object")] 2

/-- java/io/Serializable -/
def k2 : Class := { plain "java/io/Serializable" (some 0) with
  accessFlags := 1537
  interfaces := #[]
  cf := some (fileOf pool2 1 #[] #[] 1537 3 #[] #[])
  fields := #[]
  methods := #[]
  instanceTypes := #[]
  staticTypes := #[]
  resolved := Array.replicate 7 none
  statics := none }

def pool3 : Array CpInfo := pool [(1, .class_ 2), (0, u "java/lang/Comparable"), (0, .class_ 4), (0, u "java/lang/Object")] 7

/-- java/lang/Comparable -/
def k3 : Class := { plain "java/lang/Comparable" (some 0) with
  accessFlags := 1537
  interfaces := #[]
  cf := some (fileOf pool3 1 #[] #[] 1537 3 #[] #[])
  fields := #[]
  methods := #[]
  instanceTypes := #[]
  staticTypes := #[]
  resolved := Array.replicate 12 none
  statics := none }

def pool4 : Array CpInfo := pool [(2, .class_ 4), (1, u "java/lang/CharSequence"), (42, .class_ 48), (0, u "java/lang/CharSequence$1CodePointIterator"), (10, .class_ 60), (0, u "java/lang/CharSequence$1CharIterator"), (5, .class_ 67), (0, u "java/lang/Object")] 63

/-- java/lang/CharSequence -/
def k4 : Class := { plain "java/lang/CharSequence" (some 0) with
  accessFlags := 1537
  interfaces := #[]
  cf := some (fileOf pool4 2 #[.nestMembers #[47, 59]] #[] 1537 66 #[] #[])
  fields := #[]
  methods := #[]
  instanceTypes := #[]
  staticTypes := #[]
  resolved := Array.replicate 131 none
  statics := none }

def pool5 : Array CpInfo := pool [(1, .class_ 2), (0, u "java/lang/constant/Constable"), (0, .class_ 4), (0, u "java/lang/Object")] 6

/-- java/lang/constant/Constable -/
def k5 : Class := { plain "java/lang/constant/Constable" (some 0) with
  accessFlags := 1537
  interfaces := #[]
  cf := some (fileOf pool5 1 #[] #[] 1537 3 #[] #[])
  fields := #[]
  methods := #[]
  instanceTypes := #[]
  staticTypes := #[]
  resolved := Array.replicate 11 none
  statics := none }

def pool6 : Array CpInfo := pool [(1, .class_ 2), (0, u "java/lang/constant/ConstantDesc"), (0, .class_ 4), (0, u "java/lang/Object")] 32

/-- java/lang/constant/ConstantDesc -/
def k6 : Class := { plain "java/lang/constant/ConstantDesc" (some 0) with
  accessFlags := 1537
  interfaces := #[]
  cf := some (fileOf pool6 1 #[] #[] 1537 3 #[] #[])
  fields := #[]
  methods := #[]
  instanceTypes := #[]
  staticTypes := #[]
  resolved := Array.replicate 37 none
  statics := none }

def pool7 : Array CpInfo := pool [(1, .methodref 2 3), (0, .class_ 4), (0, .nameAndType 5 6), (0, u "java/lang/Object"), (0, u "<init>"), (0, u "()V"), (2, .fieldref 10 11), (0, .class_ 12), (0, .nameAndType 13 14), (0, u "java/lang/String"), (0, u "value"), (0, u "[B"), (0, .fieldref 10 16), (0, .nameAndType 17 18), (0, u "coder"), (0, u "B"), (2, u "hash"), (0, u "I"), (2, u "hashIsZero"), (0, u "Z"), (0, .methodref 10 28), (0, .nameAndType 5 29), (0, u "([CIILjava/lang/Void;)V"), (8, .fieldref 10 39), (0, .nameAndType 40 26), (0, u "COMPACT_STRINGS"), (1, .class_ 44), (1, u "java/lang/StringUTF16"), (0, u "compress"), (1, .methodref 42 48), (0, .nameAndType 49 50), (0, u "coderFromArrayLen"), (0, u "([BI)B"), (2, u "toBytes"), (53, .class_ 109), (1, u "java/lang/StringLatin1"), (67, .methodref 42 178), (0, .nameAndType 45 179), (0, u "([CII)[B"), (29, .methodref 10 210), (0, .nameAndType 5 211), (0, u "([BB)V"), (157, u "(C)Z"), (171, .methodref 107 542), (0, .nameAndType 543 544), (0, u "equals"), (0, u "([B[B)Z"), (28, u "(Ljava/lang/Object;)Z"), (1, .class_ 576), (0, u "java/lang/CharSequence"), (22, u "CASE_INSENSITIVE_ORDER"), (0, u "Ljava/util/Comparator;"), (181, u "valueOf"), (0, u "(C)Ljava/lang/String;"), (226, u "([C)V"), (4, .methodref 107 1016), (0, .nameAndType 1017 369), (0, u "canEncode"), (0, .methodref 107 1019), (0, .nameAndType 53 1020), (0, u "(C)[B"), (80, u "serialPersistentFields"), (0, u "[Ljava/io/ObjectStreamField;"), (0, .class_ 1104), (0, u "java/lang/String$CaseInsensitiveComparator"), (1, .class_ 1107), (0, u "java/io/Serializable"), (0, .class_ 1109), (0, u "java/lang/Comparable"), (0, .class_ 1111), (0, u "java/lang/constant/Constable"), (0, .class_ 1113), (0, u "java/lang/constant/ConstantDesc"), (2, u "serialVersionUID"), (0, u "J"), (3, u "REPL"), (0, u "C"), (2, u "LATIN1"), (1, u "UTF16")] 323

def k7m0 : Method := { name := "<init>", desc := "()V", sig := { parameters := [], returnType := none }, accessFlags := 1, code := none }
def k7c1 : Code := { maxStack := 5, maxLocals := 2, code := jdk_42_method_3_code, exceptionTable := #[], attributes := #[] }
def k7m1 : Method := { name := "<init>", desc := "([C)V", sig := { parameters := [(.array .char)], returnType := none }, accessFlags := 1, code := some k7c1 }
def k7c2 : Code := { maxStack := 2, maxLocals := 3, code := jdk_42_method_66_code, exceptionTable := #[], attributes := #[] }
def k7m2 : Method := { name := "equals", desc := "(Ljava/lang/Object;)Z", sig := { parameters := [(.object "java/lang/Object")], returnType := some .boolean }, accessFlags := 1, code := some k7c2 }
def k7c3 : Code := { maxStack := 4, maxLocals := 1, code := jdk_42_method_139_code, exceptionTable := #[], attributes := #[] }
def k7m3 : Method := { name := "valueOf", desc := "(C)Ljava/lang/String;", sig := { parameters := [.char], returnType := some (.object "java/lang/String") }, accessFlags := 9, code := some k7c3 }
def k7c4 : Code := { maxStack := 4, maxLocals := 6, code := jdk_42_method_149_code, exceptionTable := #[], attributes := #[] }
def k7m4 : Method := { name := "<init>", desc := "([CIILjava/lang/Void;)V", sig := { parameters := [(.array .char), .int, .int, (.object "java/lang/Void")], returnType := none }, accessFlags := 2, code := some k7c4 }
def k7c5 : Code := { maxStack := 2, maxLocals := 3, code := jdk_42_method_151_code, exceptionTable := #[], attributes := #[] }
def k7m5 : Method := { name := "<init>", desc := "([BB)V", sig := { parameters := [(.array .byte), .byte], returnType := none }, accessFlags := 0, code := some k7c5 }
/-- java/lang/String -/
def k7 : Class := { plain "java/lang/String" (some 0) with
  accessFlags := 49
  interfaces := #[2, 3, 4, 5, 6]
  cf := some (fileOf pool7 10 #[.nestMembers #[1103]] #[{ accessFlags := 1, nameIndex := 5, descriptorIndex := 6, attributes := #[] }, { accessFlags := 1, nameIndex := 5, descriptorIndex := 1010, attributes := #[] }, { accessFlags := 1, nameIndex := 543, descriptorIndex := 573, attributes := #[] }, { accessFlags := 9, nameIndex := 782, descriptorIndex := 783, attributes := #[] }, { accessFlags := 2, nameIndex := 5, descriptorIndex := 29, attributes := #[] }, { accessFlags := 0, nameIndex := 5, descriptorIndex := 211, attributes := #[] }] 49 2 #[1106, 1108, 575, 1110, 1112] #[{ accessFlags := 18, nameIndex := 13, descriptorIndex := 14, attributes := #[] }, { accessFlags := 18, nameIndex := 17, descriptorIndex := 18, attributes := #[] }, { accessFlags := 2, nameIndex := 21, descriptorIndex := 22, attributes := #[] }, { accessFlags := 2, nameIndex := 25, descriptorIndex := 26, attributes := #[] }, { accessFlags := 26, nameIndex := 1116, descriptorIndex := 1117, attributes := #[] }, { accessFlags := 24, nameIndex := 40, descriptorIndex := 26, attributes := #[] }, { accessFlags := 26, nameIndex := 1101, descriptorIndex := 1102, attributes := #[] }, { accessFlags := 26, nameIndex := 1121, descriptorIndex := 1122, attributes := #[] }, { accessFlags := 25, nameIndex := 599, descriptorIndex := 600, attributes := #[] }, { accessFlags := 24, nameIndex := 1125, descriptorIndex := 18, attributes := #[] }, { accessFlags := 24, nameIndex := 1127, descriptorIndex := 18, attributes := #[] }])
  fields := #[{ name := "value", type := (.array .byte), accessFlags := 18, slot := 0, constantValue := 0 }, { name := "coder", type := .byte, accessFlags := 18, slot := 1, constantValue := 0 }, { name := "hash", type := .int, accessFlags := 2, slot := 2, constantValue := 0 }, { name := "hashIsZero", type := .boolean, accessFlags := 2, slot := 3, constantValue := 0 }, { name := "serialVersionUID", type := .long, accessFlags := 26, slot := 0, constantValue := 0 }, { name := "COMPACT_STRINGS", type := .boolean, accessFlags := 24, slot := 1, constantValue := 0 }, { name := "serialPersistentFields", type := (.array (.object "java/io/ObjectStreamField")), accessFlags := 26, slot := 2, constantValue := 0 }, { name := "REPL", type := .char, accessFlags := 26, slot := 3, constantValue := 0 }, { name := "CASE_INSENSITIVE_ORDER", type := (.object "java/util/Comparator"), accessFlags := 25, slot := 4, constantValue := 0 }, { name := "LATIN1", type := .byte, accessFlags := 24, slot := 5, constantValue := 0 }, { name := "UTF16", type := .byte, accessFlags := 24, slot := 6, constantValue := 0 }]
  methods := #[k7m0, k7m1, k7m2, k7m3, k7m4, k7m5]
  instanceTypes := #[(.array .byte), .byte, .int, .boolean]
  staticTypes := #[.long, .boolean, (.array (.object "java/io/ObjectStreamField")), .char, (.object "java/util/Comparator"), .byte, .byte]
  resolved := Array.replicate 1451 none
  statics := some 0 }

def pool8 : Array CpInfo := pool [(4, .class_ 6), (1, u "java/lang/Object"), (0, u "<init>"), (0, u "()V"), (5, .class_ 16), (1, u "java/lang/StringLatin1"), (73, u "canEncode"), (14, u "(C)Z"), (15, u "$assertionsDisabled"), (0, u "Z"), (98, .class_ 223), (1, u "java/lang/StringLatin1$LinesSpliterator"), (57, u "equals"), (0, u "([B[B)Z"), (97, u "toBytes"), (1, u "(C)[B"), (7, .class_ 391), (0, u "java/lang/StringLatin1$CharsSpliterator")] 3

def k8m0 : Method := { name := "<init>", desc := "()V", sig := { parameters := [], returnType := none }, accessFlags := 0, code := none }
def k8c1 : Code := { maxStack := 2, maxLocals := 1, code := jdk_43_method_3_code, exceptionTable := #[], attributes := #[] }
def k8m1 : Method := { name := "canEncode", desc := "(C)Z", sig := { parameters := [.char], returnType := some .boolean }, accessFlags := 9, code := some k8c1 }
def k8c2 : Code := { maxStack := 3, maxLocals := 3, code := jdk_43_method_13_code, exceptionTable := #[], attributes := #[] }
def k8m2 : Method := { name := "equals", desc := "([B[B)Z", sig := { parameters := [(.array .byte), (.array .byte)], returnType := some .boolean }, accessFlags := 9, code := some k8c2 }
def k8c3 : Code := { maxStack := 4, maxLocals := 1, code := jdk_43_method_46_code, exceptionTable := #[], attributes := #[] }
def k8m3 : Method := { name := "toBytes", desc := "(C)[B", sig := { parameters := [.char], returnType := some (.array .byte) }, accessFlags := 9, code := some k8c3 }
/-- java/lang/StringLatin1 -/
def k8 : Class := { plain "java/lang/StringLatin1" (some 0) with
  accessFlags := 48
  interfaces := #[]
  cf := some (fileOf pool8 14 #[.nestMembers #[390, 221]] #[{ accessFlags := 0, nameIndex := 7, descriptorIndex := 8, attributes := #[] }, { accessFlags := 9, nameIndex := 90, descriptorIndex := 105, attributes := #[] }, { accessFlags := 9, nameIndex := 281, descriptorIndex := 282, attributes := #[] }, { accessFlags := 9, nameIndex := 380, descriptorIndex := 382, attributes := #[] }] 48 4 #[] #[{ accessFlags := 4120, nameIndex := 121, descriptorIndex := 122, attributes := #[] }])
  fields := #[{ name := "$assertionsDisabled", type := .boolean, accessFlags := 4120, slot := 0, constantValue := 0 }]
  methods := #[k8m0, k8m1, k8m2, k8m3]
  instanceTypes := #[]
  staticTypes := #[.boolean]
  resolved := Array.replicate 395 none
  statics := none }

def pool9 : Array CpInfo := pool [(1, .methodref 2 3), (0, .class_ 4), (0, .nameAndType 5 6), (0, u "java/lang/Object"), (0, u "<init>"), (0, u "()V"), (0, .class_ 8), (0, u "java/lang/Record")] 13

def k9c0 : Code := { maxStack := 1, maxLocals := 1, code := jdk_30_method_1_code, exceptionTable := #[], attributes := #[] }
def k9m0 : Method := { name := "<init>", desc := "()V", sig := { parameters := [], returnType := none }, accessFlags := 4, code := some k9c0 }
/-- java/lang/Record -/
def k9 : Class := { plain "java/lang/Record" (some 0) with
  accessFlags := 1057
  interfaces := #[]
  cf := some (fileOf pool9 7 #[] #[{ accessFlags := 4, nameIndex := 5, descriptorIndex := 6, attributes := #[] }] 1057 2 #[] #[])
  fields := #[]
  methods := #[k9m0]
  instanceTypes := #[]
  staticTypes := #[]
  resolved := Array.replicate 22 none
  statics := none }

def pool10 : Array CpInfo := pool [(1, .methodref 2 3), (0, .class_ 4), (0, .nameAndType 5 6), (0, u "java/lang/Record"), (0, u "<init>"), (0, u "()V"), (0, .fieldref 8 9), (0, .class_ 10), (0, .nameAndType 11 12), (0, u "com/example/mirror_tables/mirrortables/query/JpqlLexer$Token"), (0, u "kind"), (0, u "Lcom/example/mirror_tables/mirrortables/query/JpqlLexer$Kind;"), (0, .fieldref 8 14), (0, .nameAndType 15 16), (0, u "text"), (0, u "Ljava/lang/String;"), (0, .fieldref 8 18), (0, .nameAndType 19 20), (0, u "value"), (0, u "Ljava/lang/Object;"), (0, .fieldref 8 22), (0, .nameAndType 23 24), (0, u "position"), (0, u "I"), (1, .class_ 28), (1, u "com/example/mirror_tables/mirrortables/query/JpqlLexer$Kind"), (2, .class_ 33), (1, u "java/lang/String"), (1, u "(Ljava/lang/String;)Z"), (0, .fieldref 26 37), (0, .nameAndType 38 12), (0, u "SYMBOL"), (0, .methodref 31 40), (0, .nameAndType 41 42), (0, u "equals"), (0, u "(Ljava/lang/Object;)Z"), (6, .class_ 51), (1, u "com/example/mirror_tables/mirrortables/query/JpqlLexer"), (29, u "(Lcom/example/mirror_tables/mirrortables/query/JpqlLexer$Kind;Ljava/lang/String;Ljava/lang/Object;I)V"), (5, u "isSymbol")] 39

def k10c0 : Code := { maxStack := 2, maxLocals := 5, code := prog_19_method_1_code, exceptionTable := #[], attributes := #[] }
def k10m0 : Method := { name := "<init>", desc := "(Lcom/example/mirror_tables/mirrortables/query/JpqlLexer$Kind;Ljava/lang/String;Ljava/lang/Object;I)V", sig := { parameters := [(.object "com/example/mirror_tables/mirrortables/query/JpqlLexer$Kind"), (.object "java/lang/String"), (.object "java/lang/Object"), .int], returnType := none }, accessFlags := 0, code := some k10c0 }
def k10c1 : Code := { maxStack := 2, maxLocals := 2, code := prog_19_method_3_code, exceptionTable := #[], attributes := #[] }
def k10m1 : Method := { name := "isSymbol", desc := "(Ljava/lang/String;)Z", sig := { parameters := [(.object "java/lang/String")], returnType := some .boolean }, accessFlags := 0, code := some k10c1 }
/-- com/example/mirror_tables/mirrortables/query/JpqlLexer$Token -/
def k10 : Class := { plain "com/example/mirror_tables/mirrortables/query/JpqlLexer$Token" (some 9) with
  accessFlags := 48
  interfaces := #[]
  cf := some (fileOf pool10 8 #[.nestHost 49] #[{ accessFlags := 0, nameIndex := 5, descriptorIndex := 81, attributes := #[] }, { accessFlags := 0, nameIndex := 87, descriptorIndex := 35, attributes := #[] }] 48 2 #[] #[{ accessFlags := 18, nameIndex := 11, descriptorIndex := 12, attributes := #[] }, { accessFlags := 18, nameIndex := 15, descriptorIndex := 16, attributes := #[] }, { accessFlags := 18, nameIndex := 19, descriptorIndex := 20, attributes := #[] }, { accessFlags := 18, nameIndex := 23, descriptorIndex := 24, attributes := #[] }])
  fields := #[{ name := "kind", type := (.object "com/example/mirror_tables/mirrortables/query/JpqlLexer$Kind"), accessFlags := 18, slot := 0, constantValue := 0 }, { name := "text", type := (.object "java/lang/String"), accessFlags := 18, slot := 1, constantValue := 0 }, { name := "value", type := (.object "java/lang/Object"), accessFlags := 18, slot := 2, constantValue := 0 }, { name := "position", type := .int, accessFlags := 18, slot := 3, constantValue := 0 }]
  methods := #[k10m0, k10m1]
  instanceTypes := #[(.object "com/example/mirror_tables/mirrortables/query/JpqlLexer$Kind"), (.object "java/lang/String"), (.object "java/lang/Object"), .int]
  staticTypes := #[]
  resolved := Array.replicate 127 none
  statics := none }

def pool11 : Array CpInfo := pool [(2, .class_ 4), (1, u "java/lang/Enum"), (0, u "name"), (0, u "Ljava/lang/String;"), (2, u "ordinal"), (0, u "I"), (1, .class_ 14), (1, u "java/lang/Object"), (4, u "hash"), (86, .class_ 108), (1, u "java/lang/Enum$EnumDesc"), (2, .class_ 112), (0, u "java/lang/constant/Constable"), (0, .class_ 114), (0, u "java/lang/Comparable"), (0, .class_ 116), (0, u "java/io/Serializable")] 87

/-- java/lang/Enum -/
def k11 : Class := { plain "java/lang/Enum" (some 0) with
  accessFlags := 1057
  interfaces := #[5, 3, 2]
  cf := some (fileOf pool11 2 #[.nestMembers #[106]] #[] 1057 12 #[111, 113, 115] #[{ accessFlags := 18, nameIndex := 5, descriptorIndex := 6, attributes := #[] }, { accessFlags := 18, nameIndex := 9, descriptorIndex := 10, attributes := #[] }, { accessFlags := 2, nameIndex := 19, descriptorIndex := 10, attributes := #[] }])
  fields := #[{ name := "name", type := (.object "java/lang/String"), accessFlags := 18, slot := 0, constantValue := 0 }, { name := "ordinal", type := .int, accessFlags := 18, slot := 1, constantValue := 0 }, { name := "hash", type := .int, accessFlags := 2, slot := 2, constantValue := 0 }]
  methods := #[]
  instanceTypes := #[(.object "java/lang/String"), .int, .int]
  staticTypes := #[]
  resolved := Array.replicate 204 none
  statics := none }

def pool12 : Array CpInfo := pool [(1, .class_ 2), (0, u "com/example/mirror_tables/mirrortables/query/JpqlLexer$Kind"), (2, u "IDENTIFIER"), (0, u "Lcom/example/mirror_tables/mirrortables/query/JpqlLexer$Kind;"), (2, u "STRING"), (2, u "NUMBER"), (2, u "DATE_TIME"), (2, u "NAMED_PARAMETER"), (2, u "POSITIONAL_PARAMETER"), (2, u "SYMBOL"), (2, u "END"), (2, u "$VALUES"), (0, u "[Lcom/example/mirror_tables/mirrortables/query/JpqlLexer$Kind;"), (6, .class_ 40), (1, u "java/lang/Enum"), (31, .class_ 73), (0, u "com/example/mirror_tables/mirrortables/query/JpqlLexer")] 2

/-- com/example/mirror_tables/mirrortables/query/JpqlLexer$Kind -/
def k12 : Class := { plain "com/example/mirror_tables/mirrortables/query/JpqlLexer$Kind" (some 11) with
  accessFlags := 16432
  interfaces := #[]
  cf := some (fileOf pool12 1 #[.nestHost 72] #[] 16432 38 #[] #[{ accessFlags := 16409, nameIndex := 5, descriptorIndex := 6, attributes := #[] }, { accessFlags := 16409, nameIndex := 9, descriptorIndex := 6, attributes := #[] }, { accessFlags := 16409, nameIndex := 12, descriptorIndex := 6, attributes := #[] }, { accessFlags := 16409, nameIndex := 15, descriptorIndex := 6, attributes := #[] }, { accessFlags := 16409, nameIndex := 18, descriptorIndex := 6, attributes := #[] }, { accessFlags := 16409, nameIndex := 21, descriptorIndex := 6, attributes := #[] }, { accessFlags := 16409, nameIndex := 24, descriptorIndex := 6, attributes := #[] }, { accessFlags := 16409, nameIndex := 27, descriptorIndex := 6, attributes := #[] }, { accessFlags := 4122, nameIndex := 30, descriptorIndex := 31, attributes := #[] }])
  fields := #[{ name := "IDENTIFIER", type := (.object "com/example/mirror_tables/mirrortables/query/JpqlLexer$Kind"), accessFlags := 16409, slot := 0, constantValue := 0 }, { name := "STRING", type := (.object "com/example/mirror_tables/mirrortables/query/JpqlLexer$Kind"), accessFlags := 16409, slot := 1, constantValue := 0 }, { name := "NUMBER", type := (.object "com/example/mirror_tables/mirrortables/query/JpqlLexer$Kind"), accessFlags := 16409, slot := 2, constantValue := 0 }, { name := "DATE_TIME", type := (.object "com/example/mirror_tables/mirrortables/query/JpqlLexer$Kind"), accessFlags := 16409, slot := 3, constantValue := 0 }, { name := "NAMED_PARAMETER", type := (.object "com/example/mirror_tables/mirrortables/query/JpqlLexer$Kind"), accessFlags := 16409, slot := 4, constantValue := 0 }, { name := "POSITIONAL_PARAMETER", type := (.object "com/example/mirror_tables/mirrortables/query/JpqlLexer$Kind"), accessFlags := 16409, slot := 5, constantValue := 0 }, { name := "SYMBOL", type := (.object "com/example/mirror_tables/mirrortables/query/JpqlLexer$Kind"), accessFlags := 16409, slot := 6, constantValue := 0 }, { name := "END", type := (.object "com/example/mirror_tables/mirrortables/query/JpqlLexer$Kind"), accessFlags := 16409, slot := 7, constantValue := 0 }, { name := "$VALUES", type := (.array (.object "com/example/mirror_tables/mirrortables/query/JpqlLexer$Kind")), accessFlags := 4122, slot := 8, constantValue := 0 }]
  methods := #[]
  instanceTypes := #[(.object "java/lang/String"), .int, .int]
  staticTypes := #[(.object "com/example/mirror_tables/mirrortables/query/JpqlLexer$Kind"), (.object "com/example/mirror_tables/mirrortables/query/JpqlLexer$Kind"), (.object "com/example/mirror_tables/mirrortables/query/JpqlLexer$Kind"), (.object "com/example/mirror_tables/mirrortables/query/JpqlLexer$Kind"), (.object "com/example/mirror_tables/mirrortables/query/JpqlLexer$Kind"), (.object "com/example/mirror_tables/mirrortables/query/JpqlLexer$Kind"), (.object "com/example/mirror_tables/mirrortables/query/JpqlLexer$Kind"), (.object "com/example/mirror_tables/mirrortables/query/JpqlLexer$Kind"), (.array (.object "com/example/mirror_tables/mirrortables/query/JpqlLexer$Kind"))]
  resolved := Array.replicate 76 none
  statics := some 1 }

def pool13 : Array CpInfo := pool [(6, .class_ 8), (1, u "java/lang/Object"), (0, u "<init>"), (0, u "()V"), (1, .class_ 14), (1, u "java/lang/StringUTF16"), (31, u "$assertionsDisabled"), (0, u "Z"), (13, u "HI_BYTE_SHIFT"), (0, u "I"), (2, u "LO_BYTE_SHIFT"), (49, .methodref 12 116), (0, .nameAndType 117 118), (0, u "compress"), (0, u "([CI[BII)I"), (3, u "([CII)[B"), (138, u "coderFromArrayLen"), (0, u "([BI)B"), (106, .class_ 371), (1, u "java/lang/StringUTF16$LinesSpliterator"), (58, u "MAX_LENGTH"), (196, .class_ 628), (0, u "java/lang/StringUTF16$CodePointsSpliterator"), (0, .class_ 630), (0, u "java/lang/StringUTF16$CharsSpliterator")] 4

def k13m0 : Method := { name := "<init>", desc := "()V", sig := { parameters := [], returnType := none }, accessFlags := 0, code := none }
def k13c1 : Code := { maxStack := 2, maxLocals := 2, code := jdk_52_method_15_code, exceptionTable := #[], attributes := #[] }
def k13m1 : Method := { name := "coderFromArrayLen", desc := "([BI)B", sig := { parameters := [(.array .byte), .int], returnType := some .byte }, accessFlags := 8, code := some k13c1 }
def k13c2 : Code := { maxStack := 5, maxLocals := 6, code := jdk_52_method_16_code, exceptionTable := #[], attributes := #[] }
def k13m2 : Method := { name := "compress", desc := "([CII)[B", sig := { parameters := [(.array .char), .int, .int], returnType := some (.array .byte) }, accessFlags := 9, code := some k13c2 }
def k13c3 : Code := { maxStack := 3, maxLocals := 7, code := jdk_52_method_21_code, exceptionTable := #[], attributes := #[] }
def k13m3 : Method := { name := "compress", desc := "([CI[BII)I", sig := { parameters := [(.array .char), .int, (.array .byte), .int, .int], returnType := some .int }, accessFlags := 9, code := some k13c3 }
/-- java/lang/StringUTF16 -/
def k13 : Class := { plain "java/lang/StringUTF16" (some 0) with
  accessFlags := 48
  interfaces := #[]
  cf := some (fileOf pool13 12 #[.nestMembers #[627, 629, 369]] #[{ accessFlags := 0, nameIndex := 9, descriptorIndex := 10, attributes := #[] }, { accessFlags := 8, nameIndex := 261, descriptorIndex := 262, attributes := #[] }, { accessFlags := 9, nameIndex := 117, descriptorIndex := 122, attributes := #[] }, { accessFlags := 9, nameIndex := 117, descriptorIndex := 118, attributes := #[] }] 48 6 #[] #[{ accessFlags := 26, nameIndex := 61, descriptorIndex := 62, attributes := #[] }, { accessFlags := 26, nameIndex := 65, descriptorIndex := 62, attributes := #[] }, { accessFlags := 24, nameIndex := 430, descriptorIndex := 62, attributes := #[] }, { accessFlags := 4120, nameIndex := 46, descriptorIndex := 47, attributes := #[] }])
  fields := #[{ name := "HI_BYTE_SHIFT", type := .int, accessFlags := 26, slot := 0, constantValue := 0 }, { name := "LO_BYTE_SHIFT", type := .int, accessFlags := 26, slot := 1, constantValue := 0 }, { name := "MAX_LENGTH", type := .int, accessFlags := 24, slot := 2, constantValue := 0 }, { name := "$assertionsDisabled", type := .boolean, accessFlags := 4120, slot := 3, constantValue := 0 }]
  methods := #[k13m0, k13m1, k13m2, k13m3]
  instanceTypes := #[]
  staticTypes := #[.int, .int, .int, .boolean]
  resolved := Array.replicate 635 none
  statics := none }

def pool14 : Array CpInfo := pool [(1, .methodref 2 3), (0, .class_ 4), (0, .nameAndType 5 6), (0, u "java/lang/Object"), (0, u "<init>"), (0, u "()V"), (1, .class_ 10), (1, u "java/lang/Number"), (2, .class_ 14), (0, u "java/io/Serializable"), (0, u "serialVersionUID"), (0, u "J")] 20

def k14c0 : Code := { maxStack := 1, maxLocals := 1, code := jdk_18_method_1_code, exceptionTable := #[], attributes := #[] }
def k14m0 : Method := { name := "<init>", desc := "()V", sig := { parameters := [], returnType := none }, accessFlags := 1, code := some k14c0 }
/-- java/lang/Number -/
def k14 : Class := { plain "java/lang/Number" (some 0) with
  accessFlags := 1057
  interfaces := #[2]
  cf := some (fileOf pool14 8 #[] #[{ accessFlags := 1, nameIndex := 5, descriptorIndex := 6, attributes := #[] }] 1057 2 #[13] #[{ accessFlags := 26, nameIndex := 15, descriptorIndex := 16, attributes := #[] }])
  fields := #[{ name := "serialVersionUID", type := .long, accessFlags := 26, slot := 0, constantValue := 0 }]
  methods := #[k14m0]
  instanceTypes := #[]
  staticTypes := #[.long]
  resolved := Array.replicate 37 none
  statics := none }

def pool15 : Array CpInfo := pool [(1, .class_ 2), (0, u "java/lang/Integer"), (16, u "digits"), (0, u "[C"), (46, u "<init>"), (17, u "DigitOnes"), (0, u "[B"), (2, u "DigitTens"), (10, .nameAndType 67 101), (0, u "()V"), (85, u "valueOf"), (0, u "(I)Ljava/lang/Integer;"), (0, .class_ 190), (0, u "java/lang/Integer$IntegerCache"), (0, .fieldref 189 192), (0, .nameAndType 193 194), (0, u "high"), (0, u "I"), (0, .fieldref 189 196), (0, .nameAndType 197 198), (0, u "cache"), (0, u "[Ljava/lang/Integer;"), (0, .methodref 1 200), (0, .nameAndType 67 201), (0, u "(I)V"), (0, .methodref 203 100), (0, .class_ 204), (0, u "java/lang/Number"), (0, .fieldref 1 206), (0, .nameAndType 207 194), (0, u "value"), (94, u "TYPE"), (0, u "Ljava/lang/Class;"), (0, .class_ 305), (0, u "java/lang/Comparable"), (0, .class_ 307), (0, u "java/lang/constant/Constable"), (0, .class_ 309), (0, u "java/lang/constant/ConstantDesc"), (0, u "MIN_VALUE"), (1, u "MAX_VALUE"), (3, u "SIZE"), (1, u "BYTES"), (1, u "serialVersionUID"), (0, u "J")] 131

def k15c0 : Code := { maxStack := 3, maxLocals := 1, code := jdk_33_method_22_code, exceptionTable := #[], attributes := #[] }
def k15m0 : Method := { name := "valueOf", desc := "(I)Ljava/lang/Integer;", sig := { parameters := [.int], returnType := some (.object "java/lang/Integer") }, accessFlags := 9, code := some k15c0 }
def k15c1 : Code := { maxStack := 2, maxLocals := 2, code := jdk_33_method_23_code, exceptionTable := #[], attributes := #[] }
def k15m1 : Method := { name := "<init>", desc := "(I)V", sig := { parameters := [.int], returnType := none }, accessFlags := 1, code := some k15c1 }
/-- java/lang/Integer -/
def k15 : Class := { plain "java/lang/Integer" (some 14) with
  accessFlags := 49
  interfaces := #[3, 5, 6]
  cf := some (fileOf pool15 1 #[.nestMembers #[189]] #[{ accessFlags := 9, nameIndex := 187, descriptorIndex := 188, attributes := #[] }, { accessFlags := 1, nameIndex := 67, descriptorIndex := 201, attributes := #[] }] 49 203 #[304, 306, 308] #[{ accessFlags := 25, nameIndex := 310, descriptorIndex := 194, attributes := #[] }, { accessFlags := 25, nameIndex := 312, descriptorIndex := 194, attributes := #[] }, { accessFlags := 25, nameIndex := 302, descriptorIndex := 303, attributes := #[] }, { accessFlags := 24, nameIndex := 19, descriptorIndex := 20, attributes := #[] }, { accessFlags := 24, nameIndex := 89, descriptorIndex := 86, attributes := #[] }, { accessFlags := 24, nameIndex := 85, descriptorIndex := 86, attributes := #[] }, { accessFlags := 18, nameIndex := 207, descriptorIndex := 194, attributes := #[] }, { accessFlags := 25, nameIndex := 316, descriptorIndex := 194, attributes := #[] }, { accessFlags := 25, nameIndex := 318, descriptorIndex := 194, attributes := #[] }, { accessFlags := 26, nameIndex := 320, descriptorIndex := 321, attributes := #[] }])
  fields := #[{ name := "MIN_VALUE", type := .int, accessFlags := 25, slot := 0, constantValue := 0 }, { name := "MAX_VALUE", type := .int, accessFlags := 25, slot := 1, constantValue := 0 }, { name := "TYPE", type := (.object "java/lang/Class"), accessFlags := 25, slot := 2, constantValue := 0 }, { name := "digits", type := (.array .char), accessFlags := 24, slot := 3, constantValue := 0 }, { name := "DigitTens", type := (.array .byte), accessFlags := 24, slot := 4, constantValue := 0 }, { name := "DigitOnes", type := (.array .byte), accessFlags := 24, slot := 5, constantValue := 0 }, { name := "value", type := .int, accessFlags := 18, slot := 0, constantValue := 0 }, { name := "SIZE", type := .int, accessFlags := 25, slot := 6, constantValue := 0 }, { name := "BYTES", type := .int, accessFlags := 25, slot := 7, constantValue := 0 }, { name := "serialVersionUID", type := .long, accessFlags := 26, slot := 8, constantValue := 0 }]
  methods := #[k15m0, k15m1]
  instanceTypes := #[.int]
  staticTypes := #[.int, .int, (.object "java/lang/Class"), (.array .char), (.array .byte), (.array .byte), .int, .int, .long]
  resolved := Array.replicate 453 none
  statics := none }

def pool16 : Array CpInfo := pool [(2, .class_ 4), (1, u "java/lang/Object"), (0, u "<init>"), (0, u "()V"), (0, .class_ 8), (0, u "java/lang/Integer"), (7, .class_ 18), (1, u "java/lang/Integer$IntegerCache"), (0, u "$assertionsDisabled"), (0, u "Z"), (26, u "high"), (0, u "I"), (8, u "archivedCache"), (0, u "[Ljava/lang/Integer;"), (12, u "cache"), (0, u "low")] 27

def k16m0 : Method := { name := "<init>", desc := "()V", sig := { parameters := [], returnType := none }, accessFlags := 2, code := none }
/-- java/lang/Integer$IntegerCache -/
def k16 : Class := { plain "java/lang/Integer$IntegerCache" (some 0) with
  accessFlags := 48
  interfaces := #[]
  cf := some (fileOf pool16 16 #[.nestHost 7] #[{ accessFlags := 2, nameIndex := 5, descriptorIndex := 6, attributes := #[] }] 48 2 #[] #[{ accessFlags := 24, nameIndex := 72, descriptorIndex := 48, attributes := #[] }, { accessFlags := 24, nameIndex := 47, descriptorIndex := 48, attributes := #[] }, { accessFlags := 24, nameIndex := 71, descriptorIndex := 58, attributes := #[] }, { accessFlags := 8, nameIndex := 57, descriptorIndex := 58, attributes := #[] }, { accessFlags := 4120, nameIndex := 19, descriptorIndex := 20, attributes := #[] }])
  fields := #[{ name := "low", type := .int, accessFlags := 24, slot := 0, constantValue := 0 }, { name := "high", type := .int, accessFlags := 24, slot := 1, constantValue := 0 }, { name := "cache", type := (.array (.object "java/lang/Integer")), accessFlags := 24, slot := 2, constantValue := 0 }, { name := "archivedCache", type := (.array (.object "java/lang/Integer")), accessFlags := 8, slot := 3, constantValue := 0 }, { name := "$assertionsDisabled", type := .boolean, accessFlags := 4120, slot := 4, constantValue := 0 }]
  methods := #[k16m0]
  instanceTypes := #[]
  staticTypes := #[.int, .int, (.array (.object "java/lang/Integer")), (.array (.object "java/lang/Integer")), .boolean]
  resolved := Array.replicate 100 none
  statics := some 2 }

def pool17 : Array CpInfo := pool [(2, .class_ 4), (1, u "java/lang/Object"), (0, u "<init>"), (0, u "()V"), (17, .class_ 26), (1, u "jdk/internal/util/Preconditions"), (28, .class_ 56), (0, u "jdk/internal/util/Preconditions$4"), (57, .class_ 115), (0, u "jdk/internal/util/Preconditions$1"), (7, u "SIOOBE_FORMATTER"), (0, u "Ljava/util/function/BiFunction;"), (0, .class_ 126), (0, u "jdk/internal/util/Preconditions$2"), (3, u "AIOOBE_FORMATTER"), (0, .class_ 132), (0, u "jdk/internal/util/Preconditions$3"), (3, u "IOOBE_FORMATTER")] 57

def k17m0 : Method := { name := "<init>", desc := "()V", sig := { parameters := [], returnType := none }, accessFlags := 1, code := none }
/-- jdk/internal/util/Preconditions -/
def k17 : Class := { plain "jdk/internal/util/Preconditions" (some 0) with
  accessFlags := 33
  interfaces := #[]
  cf := some (fileOf pool17 24 #[.nestMembers #[55, 131, 125, 114]] #[{ accessFlags := 1, nameIndex := 5, descriptorIndex := 6, attributes := #[] }] 33 2 #[] #[{ accessFlags := 25, nameIndex := 123, descriptorIndex := 124, attributes := #[] }, { accessFlags := 25, nameIndex := 130, descriptorIndex := 124, attributes := #[] }, { accessFlags := 25, nameIndex := 136, descriptorIndex := 124, attributes := #[] }])
  fields := #[{ name := "SIOOBE_FORMATTER", type := (.object "java/util/function/BiFunction"), accessFlags := 25, slot := 0, constantValue := 0 }, { name := "AIOOBE_FORMATTER", type := (.object "java/util/function/BiFunction"), accessFlags := 25, slot := 1, constantValue := 0 }, { name := "IOOBE_FORMATTER", type := (.object "java/util/function/BiFunction"), accessFlags := 25, slot := 2, constantValue := 0 }]
  methods := #[k17m0]
  instanceTypes := #[]
  staticTypes := #[(.object "java/util/function/BiFunction"), (.object "java/util/function/BiFunction"), (.object "java/util/function/BiFunction")]
  resolved := Array.replicate 194 none
  statics := some 3 }

def pool18 : Array CpInfo := pool [(9, u "<init>"), (6, .class_ 18), (1, u "java/lang/Object"), (0, u "()V"), (1, .class_ 23), (1, u "jdk/internal/util/ArraysSupport"), (0, u "LOG2_ARRAY_LONG_INDEX_SCALE"), (0, u "I"), (2, u "U"), (0, u "Ljdk/internal/misc/Unsafe;"), (8, u "BIG_ENDIAN"), (0, u "Z"), (8, u "LOG2_BYTE_BIT_SIZE"), (4, u "LOG2_ARRAY_INT_INDEX_SCALE"), (54, u "JLA"), (0, u "Ljdk/internal/access/JavaLangAccess;"), (11, u "LOG2_ARRAY_BOOLEAN_INDEX_SCALE"), (9, u "LOG2_ARRAY_BYTE_INDEX_SCALE"), (5, u "LOG2_ARRAY_CHAR_INDEX_SCALE"), (5, u "LOG2_ARRAY_SHORT_INDEX_SCALE"), (18, u "LOG2_ARRAY_FLOAT_INDEX_SCALE"), (24, u "LOG2_ARRAY_DOUBLE_INDEX_SCALE"), (89, u "T_BOOLEAN"), (2, u "T_CHAR"), (1, u "T_FLOAT"), (1, u "T_DOUBLE"), (1, u "T_BYTE"), (1, u "T_SHORT"), (1, u "T_INT"), (1, u "T_LONG"), (1, u "SOFT_MAX_ARRAY_LENGTH")] 83

def k18m0 : Method := { name := "<init>", desc := "()V", sig := { parameters := [], returnType := none }, accessFlags := 2, code := none }
/-- jdk/internal/util/ArraysSupport -/
def k18 : Class := { plain "jdk/internal/util/ArraysSupport" (some 0) with
  accessFlags := 33
  interfaces := #[]
  cf := some (fileOf pool18 21 #[] #[{ accessFlags := 2, nameIndex := 9, descriptorIndex := 19, attributes := #[] }] 33 16 #[] #[{ accessFlags := 24, nameIndex := 28, descriptorIndex := 29, attributes := #[] }, { accessFlags := 26, nameIndex := 38, descriptorIndex := 39, attributes := #[] }, { accessFlags := 25, nameIndex := 121, descriptorIndex := 25, attributes := #[] }, { accessFlags := 25, nameIndex := 131, descriptorIndex := 25, attributes := #[] }, { accessFlags := 25, nameIndex := 137, descriptorIndex := 25, attributes := #[] }, { accessFlags := 25, nameIndex := 143, descriptorIndex := 25, attributes := #[] }, { accessFlags := 25, nameIndex := 53, descriptorIndex := 25, attributes := #[] }, { accessFlags := 25, nameIndex := 24, descriptorIndex := 25, attributes := #[] }, { accessFlags := 25, nameIndex := 162, descriptorIndex := 25, attributes := #[] }, { accessFlags := 25, nameIndex := 187, descriptorIndex := 25, attributes := #[] }, { accessFlags := 26, nameIndex := 48, descriptorIndex := 25, attributes := #[] }, { accessFlags := 25, nameIndex := 277, descriptorIndex := 25, attributes := #[] }, { accessFlags := 25, nameIndex := 280, descriptorIndex := 25, attributes := #[] }, { accessFlags := 25, nameIndex := 282, descriptorIndex := 25, attributes := #[] }, { accessFlags := 25, nameIndex := 284, descriptorIndex := 25, attributes := #[] }, { accessFlags := 25, nameIndex := 286, descriptorIndex := 25, attributes := #[] }, { accessFlags := 25, nameIndex := 288, descriptorIndex := 25, attributes := #[] }, { accessFlags := 25, nameIndex := 290, descriptorIndex := 25, attributes := #[] }, { accessFlags := 25, nameIndex := 292, descriptorIndex := 25, attributes := #[] }, { accessFlags := 26, nameIndex := 108, descriptorIndex := 109, attributes := #[] }, { accessFlags := 25, nameIndex := 294, descriptorIndex := 25, attributes := #[] }])
  fields := #[{ name := "U", type := (.object "jdk/internal/misc/Unsafe"), accessFlags := 24, slot := 0, constantValue := 0 }, { name := "BIG_ENDIAN", type := .boolean, accessFlags := 26, slot := 1, constantValue := 0 }, { name := "LOG2_ARRAY_BOOLEAN_INDEX_SCALE", type := .int, accessFlags := 25, slot := 2, constantValue := 0 }, { name := "LOG2_ARRAY_BYTE_INDEX_SCALE", type := .int, accessFlags := 25, slot := 3, constantValue := 0 }, { name := "LOG2_ARRAY_CHAR_INDEX_SCALE", type := .int, accessFlags := 25, slot := 4, constantValue := 0 }, { name := "LOG2_ARRAY_SHORT_INDEX_SCALE", type := .int, accessFlags := 25, slot := 5, constantValue := 0 }, { name := "LOG2_ARRAY_INT_INDEX_SCALE", type := .int, accessFlags := 25, slot := 6, constantValue := 0 }, { name := "LOG2_ARRAY_LONG_INDEX_SCALE", type := .int, accessFlags := 25, slot := 7, constantValue := 0 }, { name := "LOG2_ARRAY_FLOAT_INDEX_SCALE", type := .int, accessFlags := 25, slot := 8, constantValue := 0 }, { name := "LOG2_ARRAY_DOUBLE_INDEX_SCALE", type := .int, accessFlags := 25, slot := 9, constantValue := 0 }, { name := "LOG2_BYTE_BIT_SIZE", type := .int, accessFlags := 26, slot := 10, constantValue := 0 }, { name := "T_BOOLEAN", type := .int, accessFlags := 25, slot := 11, constantValue := 0 }, { name := "T_CHAR", type := .int, accessFlags := 25, slot := 12, constantValue := 0 }, { name := "T_FLOAT", type := .int, accessFlags := 25, slot := 13, constantValue := 0 }, { name := "T_DOUBLE", type := .int, accessFlags := 25, slot := 14, constantValue := 0 }, { name := "T_BYTE", type := .int, accessFlags := 25, slot := 15, constantValue := 0 }, { name := "T_SHORT", type := .int, accessFlags := 25, slot := 16, constantValue := 0 }, { name := "T_INT", type := .int, accessFlags := 25, slot := 17, constantValue := 0 }, { name := "T_LONG", type := .int, accessFlags := 25, slot := 18, constantValue := 0 }, { name := "JLA", type := (.object "jdk/internal/access/JavaLangAccess"), accessFlags := 26, slot := 19, constantValue := 0 }, { name := "SOFT_MAX_ARRAY_LENGTH", type := .int, accessFlags := 25, slot := 20, constantValue := 0 }]
  methods := #[k18m0]
  instanceTypes := #[]
  staticTypes := #[(.object "jdk/internal/misc/Unsafe"), .boolean, .int, .int, .int, .int, .int, .int, .int, .int, .int, .int, .int, .int, .int, .int, .int, .int, .int, (.object "jdk/internal/access/JavaLangAccess"), .int]
  resolved := Array.replicate 378 none
  statics := none }

def pool19 : Array CpInfo := pool [(1, u "java/lang/Cloneable"), (0, .class_ 1), (0, u "java/lang/Object"), (0, .class_ 3)] 3

/-- java/lang/Cloneable -/
def k19 : Class := { plain "java/lang/Cloneable" (some 0) with
  accessFlags := 1537
  interfaces := #[]
  cf := some (fileOf pool19 2 #[] #[] 1537 4 #[] #[])
  fields := #[]
  methods := #[]
  instanceTypes := #[]
  staticTypes := #[]
  resolved := Array.replicate 8 none
  statics := none }

/-- the primitive byte -/
def k20 : Class := { plain "byte" none with kind := .primitive 'B', accessFlags := 0x411 }
/-- [B -/
def k21 : Class := { plain "[B" (some 0) with kind := .array 20 .byte, interfaces := #[19, 2], accessFlags := 1041 }

/-- the primitive char -/
def k22 : Class := { plain "char" none with kind := .primitive 'C', accessFlags := 0x411 }
/-- [C -/
def k23 : Class := { plain "[C" (some 0) with kind := .array 22 .char, interfaces := #[19, 2], accessFlags := 1041 }

/-- the primitive int -/
def k24 : Class := { plain "int" none with kind := .primitive 'I', accessFlags := 0x411 }
/-- [I -/
def k25 : Class := { plain "[I" (some 0) with kind := .array 24 .int, interfaces := #[19, 2], accessFlags := 1041 }

/-- [Ljava/lang/Integer; -/
def k26 : Class := { plain "[Ljava/lang/Integer;" (some 0) with kind := .array 15 (.object "java/lang/Integer"), interfaces := #[19, 2], accessFlags := 1041 }

def heap : Heap := #[{ cls := 7, slots := #[.long 0, .int 1, .null, .int 0, .null, .int 0, .int 0], vm := .statics 7 },
  { cls := 12, slots := #[.ref 5, .ref 6, .ref 7, .ref 8, .ref 9, .ref 10, .ref 11, .ref 12, .null], vm := .statics 12 },
  { cls := 16, slots := #[.int 0, .int 127, .ref 4, .null, .int 0], vm := .statics 16 },
  { cls := 17, slots := #[.null, .null, .null], vm := .statics 17 },
  { cls := 26, slots := #[.ref 13, .ref 14, .ref 15, .ref 16, .ref 17, .ref 18, .ref 19, .ref 20, .ref 21, .ref 22, .ref 23, .ref 24, .ref 25, .ref 26, .ref 27, .ref 28, .ref 29, .ref 30, .ref 31, .ref 32, .ref 33, .ref 34, .ref 35, .ref 36, .ref 37, .ref 38, .ref 39, .ref 40, .ref 41, .ref 42, .ref 43, .ref 44, .ref 45, .ref 46, .ref 47, .ref 48, .ref 49, .ref 50, .ref 51, .ref 52, .ref 53, .ref 54, .ref 55, .ref 56, .ref 57, .ref 58, .ref 59, .ref 60, .ref 61, .ref 62, .ref 63, .ref 64, .ref 65, .ref 66, .ref 67, .ref 68, .ref 69, .ref 70, .ref 71, .ref 72, .ref 73, .ref 74, .ref 75, .ref 76, .ref 77, .ref 78, .ref 79, .ref 80, .ref 81, .ref 82, .ref 83, .ref 84, .ref 85, .ref 86, .ref 87, .ref 88, .ref 89, .ref 90, .ref 91, .ref 92, .ref 93, .ref 94, .ref 95, .ref 96, .ref 97, .ref 98, .ref 99, .ref 100, .ref 101, .ref 102, .ref 103, .ref 104, .ref 105, .ref 106, .ref 107, .ref 108, .ref 109, .ref 110, .ref 111, .ref 112, .ref 113, .ref 114, .ref 115, .ref 116, .ref 117, .ref 118, .ref 119, .ref 120, .ref 121, .ref 122, .ref 123, .ref 124, .ref 125, .ref 126, .ref 127, .ref 128, .ref 129, .ref 130, .ref 131, .ref 132, .ref 133, .ref 134, .ref 135, .ref 136, .ref 137, .ref 138, .ref 139, .ref 140, .ref 141, .ref 142, .ref 143, .ref 144, .ref 145, .ref 146, .ref 147, .ref 148, .ref 149, .ref 150, .ref 151, .ref 152, .ref 153, .ref 154, .ref 155, .ref 156, .ref 157, .ref 158, .ref 159, .ref 160, .ref 161, .ref 162, .ref 163, .ref 164, .ref 165, .ref 166, .ref 167, .ref 168, .ref 169, .ref 170, .ref 171, .ref 172, .ref 173, .ref 174, .ref 175, .ref 176, .ref 177, .ref 178, .ref 179, .ref 180, .ref 181, .ref 182, .ref 183, .ref 184, .ref 185, .ref 186, .ref 187, .ref 188, .ref 189, .ref 190, .ref 191, .ref 192, .ref 193, .ref 194, .ref 195, .ref 196, .ref 197, .ref 198, .ref 199, .ref 200, .ref 201, .ref 202, .ref 203, .ref 204, .ref 205, .ref 206, .ref 207, .ref 208, .ref 209, .ref 210, .ref 211, .ref 212, .ref 213, .ref 214, .ref 215, .ref 216, .ref 217, .ref 218, .ref 219, .ref 220, .ref 221, .ref 222, .ref 223, .ref 224, .ref 225, .ref 226, .ref 227, .ref 228, .ref 229, .ref 230, .ref 231, .ref 232, .ref 233, .ref 234, .ref 235, .ref 236, .ref 237, .ref 238, .ref 239, .ref 240, .ref 241, .ref 242, .ref 243, .ref 244, .ref 245, .ref 246, .ref 247, .ref 248, .ref 249, .ref 250, .ref 251, .ref 252, .ref 253, .ref 254, .ref 255, .ref 256, .ref 257, .ref 258, .ref 259, .ref 260, .ref 261, .ref 262, .ref 263, .ref 264, .ref 265, .ref 266, .ref 267, .ref 268], vm := .none },
  { cls := 12, slots := #[.null, .int 0, .int 0], vm := .none },
  { cls := 12, slots := #[.null, .int 1, .int 0], vm := .none },
  { cls := 12, slots := #[.null, .int 2, .int 0], vm := .none },
  { cls := 12, slots := #[.null, .int 3, .int 0], vm := .none },
  { cls := 12, slots := #[.null, .int 4, .int 0], vm := .none },
  { cls := 12, slots := #[.null, .int 5, .int 0], vm := .none },
  { cls := 12, slots := #[.null, .int 6, .int 0], vm := .none },
  { cls := 12, slots := #[.null, .int 7, .int 0], vm := .none },
  { cls := 15, slots := #[.int (-128)], vm := .none },
  { cls := 15, slots := #[.int (-127)], vm := .none },
  { cls := 15, slots := #[.int (-126)], vm := .none },
  { cls := 15, slots := #[.int (-125)], vm := .none },
  { cls := 15, slots := #[.int (-124)], vm := .none },
  { cls := 15, slots := #[.int (-123)], vm := .none },
  { cls := 15, slots := #[.int (-122)], vm := .none },
  { cls := 15, slots := #[.int (-121)], vm := .none },
  { cls := 15, slots := #[.int (-120)], vm := .none },
  { cls := 15, slots := #[.int (-119)], vm := .none },
  { cls := 15, slots := #[.int (-118)], vm := .none },
  { cls := 15, slots := #[.int (-117)], vm := .none },
  { cls := 15, slots := #[.int (-116)], vm := .none },
  { cls := 15, slots := #[.int (-115)], vm := .none },
  { cls := 15, slots := #[.int (-114)], vm := .none },
  { cls := 15, slots := #[.int (-113)], vm := .none },
  { cls := 15, slots := #[.int (-112)], vm := .none },
  { cls := 15, slots := #[.int (-111)], vm := .none },
  { cls := 15, slots := #[.int (-110)], vm := .none },
  { cls := 15, slots := #[.int (-109)], vm := .none },
  { cls := 15, slots := #[.int (-108)], vm := .none },
  { cls := 15, slots := #[.int (-107)], vm := .none },
  { cls := 15, slots := #[.int (-106)], vm := .none },
  { cls := 15, slots := #[.int (-105)], vm := .none },
  { cls := 15, slots := #[.int (-104)], vm := .none },
  { cls := 15, slots := #[.int (-103)], vm := .none },
  { cls := 15, slots := #[.int (-102)], vm := .none },
  { cls := 15, slots := #[.int (-101)], vm := .none },
  { cls := 15, slots := #[.int (-100)], vm := .none },
  { cls := 15, slots := #[.int (-99)], vm := .none },
  { cls := 15, slots := #[.int (-98)], vm := .none },
  { cls := 15, slots := #[.int (-97)], vm := .none },
  { cls := 15, slots := #[.int (-96)], vm := .none },
  { cls := 15, slots := #[.int (-95)], vm := .none },
  { cls := 15, slots := #[.int (-94)], vm := .none },
  { cls := 15, slots := #[.int (-93)], vm := .none },
  { cls := 15, slots := #[.int (-92)], vm := .none },
  { cls := 15, slots := #[.int (-91)], vm := .none },
  { cls := 15, slots := #[.int (-90)], vm := .none },
  { cls := 15, slots := #[.int (-89)], vm := .none },
  { cls := 15, slots := #[.int (-88)], vm := .none },
  { cls := 15, slots := #[.int (-87)], vm := .none },
  { cls := 15, slots := #[.int (-86)], vm := .none },
  { cls := 15, slots := #[.int (-85)], vm := .none },
  { cls := 15, slots := #[.int (-84)], vm := .none },
  { cls := 15, slots := #[.int (-83)], vm := .none },
  { cls := 15, slots := #[.int (-82)], vm := .none },
  { cls := 15, slots := #[.int (-81)], vm := .none },
  { cls := 15, slots := #[.int (-80)], vm := .none },
  { cls := 15, slots := #[.int (-79)], vm := .none },
  { cls := 15, slots := #[.int (-78)], vm := .none },
  { cls := 15, slots := #[.int (-77)], vm := .none },
  { cls := 15, slots := #[.int (-76)], vm := .none },
  { cls := 15, slots := #[.int (-75)], vm := .none },
  { cls := 15, slots := #[.int (-74)], vm := .none },
  { cls := 15, slots := #[.int (-73)], vm := .none },
  { cls := 15, slots := #[.int (-72)], vm := .none },
  { cls := 15, slots := #[.int (-71)], vm := .none },
  { cls := 15, slots := #[.int (-70)], vm := .none },
  { cls := 15, slots := #[.int (-69)], vm := .none },
  { cls := 15, slots := #[.int (-68)], vm := .none },
  { cls := 15, slots := #[.int (-67)], vm := .none },
  { cls := 15, slots := #[.int (-66)], vm := .none },
  { cls := 15, slots := #[.int (-65)], vm := .none },
  { cls := 15, slots := #[.int (-64)], vm := .none },
  { cls := 15, slots := #[.int (-63)], vm := .none },
  { cls := 15, slots := #[.int (-62)], vm := .none },
  { cls := 15, slots := #[.int (-61)], vm := .none },
  { cls := 15, slots := #[.int (-60)], vm := .none },
  { cls := 15, slots := #[.int (-59)], vm := .none },
  { cls := 15, slots := #[.int (-58)], vm := .none },
  { cls := 15, slots := #[.int (-57)], vm := .none },
  { cls := 15, slots := #[.int (-56)], vm := .none },
  { cls := 15, slots := #[.int (-55)], vm := .none },
  { cls := 15, slots := #[.int (-54)], vm := .none },
  { cls := 15, slots := #[.int (-53)], vm := .none },
  { cls := 15, slots := #[.int (-52)], vm := .none },
  { cls := 15, slots := #[.int (-51)], vm := .none },
  { cls := 15, slots := #[.int (-50)], vm := .none },
  { cls := 15, slots := #[.int (-49)], vm := .none },
  { cls := 15, slots := #[.int (-48)], vm := .none },
  { cls := 15, slots := #[.int (-47)], vm := .none },
  { cls := 15, slots := #[.int (-46)], vm := .none },
  { cls := 15, slots := #[.int (-45)], vm := .none },
  { cls := 15, slots := #[.int (-44)], vm := .none },
  { cls := 15, slots := #[.int (-43)], vm := .none },
  { cls := 15, slots := #[.int (-42)], vm := .none },
  { cls := 15, slots := #[.int (-41)], vm := .none },
  { cls := 15, slots := #[.int (-40)], vm := .none },
  { cls := 15, slots := #[.int (-39)], vm := .none },
  { cls := 15, slots := #[.int (-38)], vm := .none },
  { cls := 15, slots := #[.int (-37)], vm := .none },
  { cls := 15, slots := #[.int (-36)], vm := .none },
  { cls := 15, slots := #[.int (-35)], vm := .none },
  { cls := 15, slots := #[.int (-34)], vm := .none },
  { cls := 15, slots := #[.int (-33)], vm := .none },
  { cls := 15, slots := #[.int (-32)], vm := .none },
  { cls := 15, slots := #[.int (-31)], vm := .none },
  { cls := 15, slots := #[.int (-30)], vm := .none },
  { cls := 15, slots := #[.int (-29)], vm := .none },
  { cls := 15, slots := #[.int (-28)], vm := .none },
  { cls := 15, slots := #[.int (-27)], vm := .none },
  { cls := 15, slots := #[.int (-26)], vm := .none },
  { cls := 15, slots := #[.int (-25)], vm := .none },
  { cls := 15, slots := #[.int (-24)], vm := .none },
  { cls := 15, slots := #[.int (-23)], vm := .none },
  { cls := 15, slots := #[.int (-22)], vm := .none },
  { cls := 15, slots := #[.int (-21)], vm := .none },
  { cls := 15, slots := #[.int (-20)], vm := .none },
  { cls := 15, slots := #[.int (-19)], vm := .none },
  { cls := 15, slots := #[.int (-18)], vm := .none },
  { cls := 15, slots := #[.int (-17)], vm := .none },
  { cls := 15, slots := #[.int (-16)], vm := .none },
  { cls := 15, slots := #[.int (-15)], vm := .none },
  { cls := 15, slots := #[.int (-14)], vm := .none },
  { cls := 15, slots := #[.int (-13)], vm := .none },
  { cls := 15, slots := #[.int (-12)], vm := .none },
  { cls := 15, slots := #[.int (-11)], vm := .none },
  { cls := 15, slots := #[.int (-10)], vm := .none },
  { cls := 15, slots := #[.int (-9)], vm := .none },
  { cls := 15, slots := #[.int (-8)], vm := .none },
  { cls := 15, slots := #[.int (-7)], vm := .none },
  { cls := 15, slots := #[.int (-6)], vm := .none },
  { cls := 15, slots := #[.int (-5)], vm := .none },
  { cls := 15, slots := #[.int (-4)], vm := .none },
  { cls := 15, slots := #[.int (-3)], vm := .none },
  { cls := 15, slots := #[.int (-2)], vm := .none },
  { cls := 15, slots := #[.int (-1)], vm := .none },
  { cls := 15, slots := #[.int 0], vm := .none },
  { cls := 15, slots := #[.int 1], vm := .none },
  { cls := 15, slots := #[.int 2], vm := .none },
  { cls := 15, slots := #[.int 3], vm := .none },
  { cls := 15, slots := #[.int 4], vm := .none },
  { cls := 15, slots := #[.int 5], vm := .none },
  { cls := 15, slots := #[.int 6], vm := .none },
  { cls := 15, slots := #[.int 7], vm := .none },
  { cls := 15, slots := #[.int 8], vm := .none },
  { cls := 15, slots := #[.int 9], vm := .none },
  { cls := 15, slots := #[.int 10], vm := .none },
  { cls := 15, slots := #[.int 11], vm := .none },
  { cls := 15, slots := #[.int 12], vm := .none },
  { cls := 15, slots := #[.int 13], vm := .none },
  { cls := 15, slots := #[.int 14], vm := .none },
  { cls := 15, slots := #[.int 15], vm := .none },
  { cls := 15, slots := #[.int 16], vm := .none },
  { cls := 15, slots := #[.int 17], vm := .none },
  { cls := 15, slots := #[.int 18], vm := .none },
  { cls := 15, slots := #[.int 19], vm := .none },
  { cls := 15, slots := #[.int 20], vm := .none },
  { cls := 15, slots := #[.int 21], vm := .none },
  { cls := 15, slots := #[.int 22], vm := .none },
  { cls := 15, slots := #[.int 23], vm := .none },
  { cls := 15, slots := #[.int 24], vm := .none },
  { cls := 15, slots := #[.int 25], vm := .none },
  { cls := 15, slots := #[.int 26], vm := .none },
  { cls := 15, slots := #[.int 27], vm := .none },
  { cls := 15, slots := #[.int 28], vm := .none },
  { cls := 15, slots := #[.int 29], vm := .none },
  { cls := 15, slots := #[.int 30], vm := .none },
  { cls := 15, slots := #[.int 31], vm := .none },
  { cls := 15, slots := #[.int 32], vm := .none },
  { cls := 15, slots := #[.int 33], vm := .none },
  { cls := 15, slots := #[.int 34], vm := .none },
  { cls := 15, slots := #[.int 35], vm := .none },
  { cls := 15, slots := #[.int 36], vm := .none },
  { cls := 15, slots := #[.int 37], vm := .none },
  { cls := 15, slots := #[.int 38], vm := .none },
  { cls := 15, slots := #[.int 39], vm := .none },
  { cls := 15, slots := #[.int 40], vm := .none },
  { cls := 15, slots := #[.int 41], vm := .none },
  { cls := 15, slots := #[.int 42], vm := .none },
  { cls := 15, slots := #[.int 43], vm := .none },
  { cls := 15, slots := #[.int 44], vm := .none },
  { cls := 15, slots := #[.int 45], vm := .none },
  { cls := 15, slots := #[.int 46], vm := .none },
  { cls := 15, slots := #[.int 47], vm := .none },
  { cls := 15, slots := #[.int 48], vm := .none },
  { cls := 15, slots := #[.int 49], vm := .none },
  { cls := 15, slots := #[.int 50], vm := .none },
  { cls := 15, slots := #[.int 51], vm := .none },
  { cls := 15, slots := #[.int 52], vm := .none },
  { cls := 15, slots := #[.int 53], vm := .none },
  { cls := 15, slots := #[.int 54], vm := .none },
  { cls := 15, slots := #[.int 55], vm := .none },
  { cls := 15, slots := #[.int 56], vm := .none },
  { cls := 15, slots := #[.int 57], vm := .none },
  { cls := 15, slots := #[.int 58], vm := .none },
  { cls := 15, slots := #[.int 59], vm := .none },
  { cls := 15, slots := #[.int 60], vm := .none },
  { cls := 15, slots := #[.int 61], vm := .none },
  { cls := 15, slots := #[.int 62], vm := .none },
  { cls := 15, slots := #[.int 63], vm := .none },
  { cls := 15, slots := #[.int 64], vm := .none },
  { cls := 15, slots := #[.int 65], vm := .none },
  { cls := 15, slots := #[.int 66], vm := .none },
  { cls := 15, slots := #[.int 67], vm := .none },
  { cls := 15, slots := #[.int 68], vm := .none },
  { cls := 15, slots := #[.int 69], vm := .none },
  { cls := 15, slots := #[.int 70], vm := .none },
  { cls := 15, slots := #[.int 71], vm := .none },
  { cls := 15, slots := #[.int 72], vm := .none },
  { cls := 15, slots := #[.int 73], vm := .none },
  { cls := 15, slots := #[.int 74], vm := .none },
  { cls := 15, slots := #[.int 75], vm := .none },
  { cls := 15, slots := #[.int 76], vm := .none },
  { cls := 15, slots := #[.int 77], vm := .none },
  { cls := 15, slots := #[.int 78], vm := .none },
  { cls := 15, slots := #[.int 79], vm := .none },
  { cls := 15, slots := #[.int 80], vm := .none },
  { cls := 15, slots := #[.int 81], vm := .none },
  { cls := 15, slots := #[.int 82], vm := .none },
  { cls := 15, slots := #[.int 83], vm := .none },
  { cls := 15, slots := #[.int 84], vm := .none },
  { cls := 15, slots := #[.int 85], vm := .none },
  { cls := 15, slots := #[.int 86], vm := .none },
  { cls := 15, slots := #[.int 87], vm := .none },
  { cls := 15, slots := #[.int 88], vm := .none },
  { cls := 15, slots := #[.int 89], vm := .none },
  { cls := 15, slots := #[.int 90], vm := .none },
  { cls := 15, slots := #[.int 91], vm := .none },
  { cls := 15, slots := #[.int 92], vm := .none },
  { cls := 15, slots := #[.int 93], vm := .none },
  { cls := 15, slots := #[.int 94], vm := .none },
  { cls := 15, slots := #[.int 95], vm := .none },
  { cls := 15, slots := #[.int 96], vm := .none },
  { cls := 15, slots := #[.int 97], vm := .none },
  { cls := 15, slots := #[.int 98], vm := .none },
  { cls := 15, slots := #[.int 99], vm := .none },
  { cls := 15, slots := #[.int 100], vm := .none },
  { cls := 15, slots := #[.int 101], vm := .none },
  { cls := 15, slots := #[.int 102], vm := .none },
  { cls := 15, slots := #[.int 103], vm := .none },
  { cls := 15, slots := #[.int 104], vm := .none },
  { cls := 15, slots := #[.int 105], vm := .none },
  { cls := 15, slots := #[.int 106], vm := .none },
  { cls := 15, slots := #[.int 107], vm := .none },
  { cls := 15, slots := #[.int 108], vm := .none },
  { cls := 15, slots := #[.int 109], vm := .none },
  { cls := 15, slots := #[.int 110], vm := .none },
  { cls := 15, slots := #[.int 111], vm := .none },
  { cls := 15, slots := #[.int 112], vm := .none },
  { cls := 15, slots := #[.int 113], vm := .none },
  { cls := 15, slots := #[.int 114], vm := .none },
  { cls := 15, slots := #[.int 115], vm := .none },
  { cls := 15, slots := #[.int 116], vm := .none },
  { cls := 15, slots := #[.int 117], vm := .none },
  { cls := 15, slots := #[.int 118], vm := .none },
  { cls := 15, slots := #[.int 119], vm := .none },
  { cls := 15, slots := #[.int 120], vm := .none },
  { cls := 15, slots := #[.int 121], vm := .none },
  { cls := 15, slots := #[.int 122], vm := .none },
  { cls := 15, slots := #[.int 123], vm := .none },
  { cls := 15, slots := #[.int 124], vm := .none },
  { cls := 15, slots := #[.int 125], vm := .none },
  { cls := 15, slots := #[.int 126], vm := .none },
  { cls := 15, slots := #[.int 127], vm := .none }]
def classes : Array Class := #[k0, k1, k2, k3, k4, k5, k6, k7, k8, k9, k10, k11, k12, k13, k14, k15, k16, k17, k18, k19, k20, k21, k22, k23, k24, k25, k26]
def interned : List (Array UInt16 × Addr) := []
def slotsUsed : Nat := 560
def theMethod : MethodId := ⟨1, 3⟩
def args0 : Array Value := #[.int 0, .int 1, .int 2, .int 3, .int 4, .int 5]
def aboutOver (below : List Frame) : State where
  vm := { classes := classes, interned := interned.toArray }
  heap := heap
  slotsUsed := slotsUsed
  threads := #[{ frames := .invoking theMethod args0 :: below }]
def below0 : List Frame := [.native { method := ⟨0, 0⟩, args := #[] }]
def about1 : State := aboutOver below0
def p0 : Program := .bare "" "" ""
def e0 : Env := launch0.env 0 0 0
theorem w_frames : about1.frames = Frame.invoking theMethod args0 :: below0 := rfl
set_option maxRecDepth 65536 in
theorem w_args : argsFit about1.vm theMethod args0 = true := by decide +kernel
set_option maxRecDepth 65536 in
theorem w_heap : heapFits about1 = true := by decide +kernel
set_option maxRecDepth 65536 in
theorem w_runnable : about1.curStatus? = some .runnable := by decide +kernel
set_option maxRecDepth 65536 in
theorem w_alone : about1.alone = true := by decide +kernel
set_option maxRecDepth 65536 in
theorem w_named : about1.methodNamed? x = some theMethod := by decide +kernel
set_option maxRecDepth 65536 in
theorem w_hears : about1.hears theMethod below0 = true := by decide +kernel
set_option maxRecDepth 65536 in
theorem w_ripe : about1.ripe theMethod args0 below0 = true := by decide +kernel
theorem w_running : about1.status = .running := rfl
set_option maxRecDepth 65536 in
theorem w_room : about1.hasRoom e0.platform room_1 = true :=
  launch0.hasRoom_least _ room_1 (by decide +kernel) (by decide +kernel) (by decide +kernel) (by decide +kernel) (by decide +kernel) (by decide +kernel)
theorem allAtoms_all (ts : List Jvm.Cond) (a : Array Jvm.Value) (st : Jvm.State) : (allAtoms ts).before a st = ts.all (fun c => c.before a st) := by
  induction ts with
  | nil => rfl
  | cons c t ih =>
    show (Jvm.Cond.and c (allAtoms t)).before a st = _
    rw [Jvm.Cond.before_and, ih, List.all_cons]
def words1 : List Jvm.Cond := Jvm.Cond.code x code maxLocals ret :: tables_1
/-- a 'code' word, met by the world's own term for the bytes: nothing is compared byte by byte -/
theorem code_word {y : MethodName} {bytes : ByteArray} {mx : Nat} {rt : Option FieldType} {a : Array Value} {s : State} {m : MethodId} {meth : Method} {c : Code} (h1 : s.methodNamed? y = some m) (h2 : s.vm.method? m = some meth) (h3 : meth.code = some c) (h4 : c.code = bytes)
    (h5 : (c.maxLocals == mx && c.exceptionTable.isEmpty && decide (c.maxStack ≤ mostOperands) && decide (meth.sig.returnType = rt) && !meth.locks && decide (parseMethodDescriptor y.desc = some meth.sig)) = true) : (Jvm.Cond.code y bytes mx rt).before a s = true := by
  simp only [Bool.and_eq_true, beq_iff_eq, Bool.not_eq_true', decide_eq_true_eq] at h5
  obtain ⟨⟨⟨⟨⟨g1, g2⟩, g3⟩, g4⟩, g5⟩, g6⟩ := h5
  simp [Cond.before, Cond.holds, Cond.value, h1, h2, h3, h4, g1, g2, g3, g4, g5, g6]
def isCode : Jvm.Cond → Bool
  | .code _ _ _ _ => true
  | _ => false
theorem all_split {L : List Jvm.Cond} {P : Jvm.Cond → Bool} (h1 : L.all (fun c => isCode c || P c) = true) (h2 : ∀ c ∈ L.filter isCode, P c = true) : L.all P = true := by
  refine List.all_eq_true.mpr fun c hc => ?_
  have h := List.all_eq_true.mp h1 c hc
  rcases Bool.eq_false_or_eq_true (isCode c) with hi | hi
  · exact h2 c (List.mem_filter.mpr ⟨hc, hi⟩)
  · simpa [hi] using h
set_option maxRecDepth 65536 in
theorem w_c0 : (Jvm.Cond.code x code maxLocals ret).before args0 about1 = true := code_word (m := ⟨1, 3⟩) (meth := k1m3) (c := k1c3) (by decide +kernel) rfl rfl rfl (by decide +kernel)
set_option maxRecDepth 65536 in
theorem w_c1 : (Jvm.Cond.code ({ cls := "com/example/mirror_tables/mirrortables/query/TokenIsSymbolPinLaw", name := "make", desc := "(ICC)Ljava/lang/String;" } : Jvm.MethodName) method_3_code (4 : Nat) (Option.some (Jvm.ClassFile.FieldType.object "java/lang/String"))).before args0 about1 = true := code_word (m := ⟨1, 2⟩) (meth := k1m2) (c := k1c2) (by decide +kernel) rfl rfl rfl (by decide +kernel)
set_option maxRecDepth 65536 in
theorem w_c2 : (Jvm.Cond.code ({ cls := "java/lang/String", name := "valueOf", desc := "(C)Ljava/lang/String;" } : Jvm.MethodName) jdk_42_method_139_code (1 : Nat) (Option.some (Jvm.ClassFile.FieldType.object "java/lang/String"))).before args0 about1 = true := code_word (m := ⟨7, 3⟩) (meth := k7m3) (c := k7c3) (by decide +kernel) rfl rfl rfl (by decide +kernel)
set_option maxRecDepth 65536 in
theorem w_c3 : (Jvm.Cond.code ({ cls := "java/lang/StringLatin1", name := "canEncode", desc := "(C)Z" } : Jvm.MethodName) jdk_43_method_3_code (1 : Nat) (Option.some Jvm.ClassFile.FieldType.boolean)).before args0 about1 = true := code_word (m := ⟨8, 1⟩) (meth := k8m1) (c := k8c1) (by decide +kernel) rfl rfl rfl (by decide +kernel)
set_option maxRecDepth 65536 in
theorem w_c4 : (Jvm.Cond.code ({ cls := "java/lang/StringLatin1", name := "toBytes", desc := "(C)[B" } : Jvm.MethodName) jdk_43_method_46_code (1 : Nat) (Option.some (Jvm.ClassFile.FieldType.array Jvm.ClassFile.FieldType.byte))).before args0 about1 = true := code_word (m := ⟨8, 3⟩) (meth := k8m3) (c := k8c3) (by decide +kernel) rfl rfl rfl (by decide +kernel)
set_option maxRecDepth 65536 in
theorem w_c5 : (Jvm.Cond.code ({ cls := "java/lang/String", name := "<init>", desc := "([BB)V" } : Jvm.MethodName) jdk_42_method_151_code (3 : Nat) (Option.none : Option Jvm.ClassFile.FieldType)).before args0 about1 = true := code_word (m := ⟨7, 5⟩) (meth := k7m5) (c := k7c5) (by decide +kernel) rfl rfl rfl (by decide +kernel)
set_option maxRecDepth 65536 in
theorem w_c6 : (Jvm.Cond.code ({ cls := "java/lang/Object", name := "<init>", desc := "()V" } : Jvm.MethodName) object_method_1_code (1 : Nat) (Option.none : Option Jvm.ClassFile.FieldType)).before args0 about1 = true := code_word (m := ⟨0, 0⟩) (meth := k0m0) (c := k0c0) (by decide +kernel) rfl rfl rfl (by decide +kernel)
set_option maxRecDepth 65536 in
theorem w_c7 : (Jvm.Cond.code ({ cls := "com/example/mirror_tables/mirrortables/query/TokenIsSymbolPinLaw", name := "kindOf", desc := "(I)Lcom/example/mirror_tables/mirrortables/query/JpqlLexer$Kind;" } : Jvm.MethodName) method_2_code (2 : Nat) (Option.some (Jvm.ClassFile.FieldType.object "com/example/mirror_tables/mirrortables/query/JpqlLexer$Kind"))).before args0 about1 = true := code_word (m := ⟨1, 1⟩) (meth := k1m1) (c := k1c1) (by decide +kernel) rfl rfl rfl (by decide +kernel)
set_option maxRecDepth 65536 in
theorem w_c8 : (Jvm.Cond.code ({ cls := "com/example/mirror_tables/mirrortables/query/JpqlLexer$Token", name := "<init>", desc := "(Lcom/example/mirror_tables/mirrortables/query/JpqlLexer$Kind;Ljava/lang/String;Ljava/lang/Object;I)V" } : Jvm.MethodName) prog_19_method_1_code (5 : Nat) (Option.none : Option Jvm.ClassFile.FieldType)).before args0 about1 = true := code_word (m := ⟨10, 0⟩) (meth := k10m0) (c := k10c0) (by decide +kernel) rfl rfl rfl (by decide +kernel)
set_option maxRecDepth 65536 in
theorem w_c9 : (Jvm.Cond.code ({ cls := "java/lang/Record", name := "<init>", desc := "()V" } : Jvm.MethodName) jdk_30_method_1_code (1 : Nat) (Option.none : Option Jvm.ClassFile.FieldType)).before args0 about1 = true := code_word (m := ⟨9, 0⟩) (meth := k9m0) (c := k9c0) (by decide +kernel) rfl rfl rfl (by decide +kernel)
set_option maxRecDepth 65536 in
theorem w_c10 : (Jvm.Cond.code ({ cls := "com/example/mirror_tables/mirrortables/query/JpqlLexer$Token", name := "isSymbol", desc := "(Ljava/lang/String;)Z" } : Jvm.MethodName) prog_19_method_3_code (2 : Nat) (Option.some Jvm.ClassFile.FieldType.boolean)).before args0 about1 = true := code_word (m := ⟨10, 1⟩) (meth := k10m1) (c := k10c1) (by decide +kernel) rfl rfl rfl (by decide +kernel)
set_option maxRecDepth 65536 in
theorem w_c11 : (Jvm.Cond.code ({ cls := "java/lang/String", name := "<init>", desc := "([C)V" } : Jvm.MethodName) jdk_42_method_3_code (2 : Nat) (Option.none : Option Jvm.ClassFile.FieldType)).before args0 about1 = true := code_word (m := ⟨7, 1⟩) (meth := k7m1) (c := k7c1) (by decide +kernel) rfl rfl rfl (by decide +kernel)
set_option maxRecDepth 65536 in
theorem w_c12 : (Jvm.Cond.code ({ cls := "java/lang/String", name := "<init>", desc := "([CIILjava/lang/Void;)V" } : Jvm.MethodName) jdk_42_method_149_code (6 : Nat) (Option.none : Option Jvm.ClassFile.FieldType)).before args0 about1 = true := code_word (m := ⟨7, 4⟩) (meth := k7m4) (c := k7c4) (by decide +kernel) rfl rfl rfl (by decide +kernel)
set_option maxRecDepth 65536 in
theorem w_c13 : (Jvm.Cond.code ({ cls := "java/lang/StringUTF16", name := "compress", desc := "([CII)[B" } : Jvm.MethodName) jdk_52_method_16_code (6 : Nat) (Option.some (Jvm.ClassFile.FieldType.array Jvm.ClassFile.FieldType.byte))).before args0 about1 = true := code_word (m := ⟨13, 2⟩) (meth := k13m2) (c := k13c2) (by decide +kernel) rfl rfl rfl (by decide +kernel)
set_option maxRecDepth 65536 in
theorem w_c14 : (Jvm.Cond.code ({ cls := "java/lang/StringUTF16", name := "compress", desc := "([CI[BII)I" } : Jvm.MethodName) jdk_52_method_21_code (7 : Nat) (Option.some Jvm.ClassFile.FieldType.int)).before args0 about1 = true := code_word (m := ⟨13, 3⟩) (meth := k13m3) (c := k13c3) (by decide +kernel) rfl rfl rfl (by decide +kernel)
set_option maxRecDepth 65536 in
theorem w_c15 : (Jvm.Cond.code ({ cls := "java/lang/StringUTF16", name := "coderFromArrayLen", desc := "([BI)B" } : Jvm.MethodName) jdk_52_method_15_code (2 : Nat) (Option.some Jvm.ClassFile.FieldType.byte)).before args0 about1 = true := code_word (m := ⟨13, 1⟩) (meth := k13m1) (c := k13c1) (by decide +kernel) rfl rfl rfl (by decide +kernel)
set_option maxRecDepth 65536 in
theorem w_c16 : (Jvm.Cond.code ({ cls := "java/lang/Integer", name := "valueOf", desc := "(I)Ljava/lang/Integer;" } : Jvm.MethodName) jdk_33_method_22_code (1 : Nat) (Option.some (Jvm.ClassFile.FieldType.object "java/lang/Integer"))).before args0 about1 = true := code_word (m := ⟨15, 0⟩) (meth := k15m0) (c := k15c0) (by decide +kernel) rfl rfl rfl (by decide +kernel)
set_option maxRecDepth 65536 in
theorem w_c17 : (Jvm.Cond.code ({ cls := "java/lang/Integer", name := "<init>", desc := "(I)V" } : Jvm.MethodName) jdk_33_method_23_code (2 : Nat) (Option.none : Option Jvm.ClassFile.FieldType)).before args0 about1 = true := code_word (m := ⟨15, 1⟩) (meth := k15m1) (c := k15c1) (by decide +kernel) rfl rfl rfl (by decide +kernel)
set_option maxRecDepth 65536 in
theorem w_c18 : (Jvm.Cond.code ({ cls := "java/lang/Number", name := "<init>", desc := "()V" } : Jvm.MethodName) jdk_18_method_1_code (1 : Nat) (Option.none : Option Jvm.ClassFile.FieldType)).before args0 about1 = true := code_word (m := ⟨14, 0⟩) (meth := k14m0) (c := k14c0) (by decide +kernel) rfl rfl rfl (by decide +kernel)
set_option maxRecDepth 65536 in
theorem w_c19 : (Jvm.Cond.code ({ cls := "java/lang/String", name := "equals", desc := "(Ljava/lang/Object;)Z" } : Jvm.MethodName) jdk_42_method_66_code (3 : Nat) (Option.some Jvm.ClassFile.FieldType.boolean)).before args0 about1 = true := code_word (m := ⟨7, 2⟩) (meth := k7m2) (c := k7c2) (by decide +kernel) rfl rfl rfl (by decide +kernel)
set_option maxRecDepth 65536 in
theorem w_c20 : (Jvm.Cond.code ({ cls := "java/lang/StringLatin1", name := "equals", desc := "([B[B)Z" } : Jvm.MethodName) jdk_43_method_13_code (3 : Nat) (Option.some Jvm.ClassFile.FieldType.boolean)).before args0 about1 = true := code_word (m := ⟨8, 2⟩) (meth := k8m2) (c := k8c2) (by decide +kernel) rfl rfl rfl (by decide +kernel)
def codes1 : List Jvm.Cond := [Jvm.Cond.code x code maxLocals ret, Jvm.Cond.code ({ cls := "com/example/mirror_tables/mirrortables/query/TokenIsSymbolPinLaw", name := "make", desc := "(ICC)Ljava/lang/String;" } : Jvm.MethodName) method_3_code (4 : Nat) (Option.some (Jvm.ClassFile.FieldType.object "java/lang/String")), Jvm.Cond.code ({ cls := "java/lang/String", name := "valueOf", desc := "(C)Ljava/lang/String;" } : Jvm.MethodName) jdk_42_method_139_code (1 : Nat) (Option.some (Jvm.ClassFile.FieldType.object "java/lang/String")), Jvm.Cond.code ({ cls := "java/lang/StringLatin1", name := "canEncode", desc := "(C)Z" } : Jvm.MethodName) jdk_43_method_3_code (1 : Nat) (Option.some Jvm.ClassFile.FieldType.boolean), Jvm.Cond.code ({ cls := "java/lang/StringLatin1", name := "toBytes", desc := "(C)[B" } : Jvm.MethodName) jdk_43_method_46_code (1 : Nat) (Option.some (Jvm.ClassFile.FieldType.array Jvm.ClassFile.FieldType.byte)), Jvm.Cond.code ({ cls := "java/lang/String", name := "<init>", desc := "([BB)V" } : Jvm.MethodName) jdk_42_method_151_code (3 : Nat) (Option.none : Option Jvm.ClassFile.FieldType), Jvm.Cond.code ({ cls := "java/lang/Object", name := "<init>", desc := "()V" } : Jvm.MethodName) object_method_1_code (1 : Nat) (Option.none : Option Jvm.ClassFile.FieldType), Jvm.Cond.code ({ cls := "com/example/mirror_tables/mirrortables/query/TokenIsSymbolPinLaw", name := "kindOf", desc := "(I)Lcom/example/mirror_tables/mirrortables/query/JpqlLexer$Kind;" } : Jvm.MethodName) method_2_code (2 : Nat) (Option.some (Jvm.ClassFile.FieldType.object "com/example/mirror_tables/mirrortables/query/JpqlLexer$Kind")), Jvm.Cond.code ({ cls := "com/example/mirror_tables/mirrortables/query/JpqlLexer$Token", name := "<init>", desc := "(Lcom/example/mirror_tables/mirrortables/query/JpqlLexer$Kind;Ljava/lang/String;Ljava/lang/Object;I)V" } : Jvm.MethodName) prog_19_method_1_code (5 : Nat) (Option.none : Option Jvm.ClassFile.FieldType), Jvm.Cond.code ({ cls := "java/lang/Record", name := "<init>", desc := "()V" } : Jvm.MethodName) jdk_30_method_1_code (1 : Nat) (Option.none : Option Jvm.ClassFile.FieldType), Jvm.Cond.code ({ cls := "com/example/mirror_tables/mirrortables/query/JpqlLexer$Token", name := "isSymbol", desc := "(Ljava/lang/String;)Z" } : Jvm.MethodName) prog_19_method_3_code (2 : Nat) (Option.some Jvm.ClassFile.FieldType.boolean), Jvm.Cond.code ({ cls := "java/lang/String", name := "<init>", desc := "([C)V" } : Jvm.MethodName) jdk_42_method_3_code (2 : Nat) (Option.none : Option Jvm.ClassFile.FieldType), Jvm.Cond.code ({ cls := "java/lang/String", name := "<init>", desc := "([CIILjava/lang/Void;)V" } : Jvm.MethodName) jdk_42_method_149_code (6 : Nat) (Option.none : Option Jvm.ClassFile.FieldType), Jvm.Cond.code ({ cls := "java/lang/StringUTF16", name := "compress", desc := "([CII)[B" } : Jvm.MethodName) jdk_52_method_16_code (6 : Nat) (Option.some (Jvm.ClassFile.FieldType.array Jvm.ClassFile.FieldType.byte)), Jvm.Cond.code ({ cls := "java/lang/StringUTF16", name := "compress", desc := "([CI[BII)I" } : Jvm.MethodName) jdk_52_method_21_code (7 : Nat) (Option.some Jvm.ClassFile.FieldType.int), Jvm.Cond.code ({ cls := "java/lang/StringUTF16", name := "coderFromArrayLen", desc := "([BI)B" } : Jvm.MethodName) jdk_52_method_15_code (2 : Nat) (Option.some Jvm.ClassFile.FieldType.byte), Jvm.Cond.code ({ cls := "java/lang/Integer", name := "valueOf", desc := "(I)Ljava/lang/Integer;" } : Jvm.MethodName) jdk_33_method_22_code (1 : Nat) (Option.some (Jvm.ClassFile.FieldType.object "java/lang/Integer")), Jvm.Cond.code ({ cls := "java/lang/Integer", name := "<init>", desc := "(I)V" } : Jvm.MethodName) jdk_33_method_23_code (2 : Nat) (Option.none : Option Jvm.ClassFile.FieldType), Jvm.Cond.code ({ cls := "java/lang/Number", name := "<init>", desc := "()V" } : Jvm.MethodName) jdk_18_method_1_code (1 : Nat) (Option.none : Option Jvm.ClassFile.FieldType), Jvm.Cond.code ({ cls := "java/lang/String", name := "equals", desc := "(Ljava/lang/Object;)Z" } : Jvm.MethodName) jdk_42_method_66_code (3 : Nat) (Option.some Jvm.ClassFile.FieldType.boolean), Jvm.Cond.code ({ cls := "java/lang/StringLatin1", name := "equals", desc := "([B[B)Z" } : Jvm.MethodName) jdk_43_method_13_code (3 : Nat) (Option.some Jvm.ClassFile.FieldType.boolean)]
set_option maxRecDepth 65536 in
theorem codes_eq : words1.filter isCode = codes1 := rfl
theorem w_codes : ∀ c ∈ words1.filter isCode, c.before args0 about1 = true := by
  rw [codes_eq]
  intro c hc
  simp only [codes1, List.mem_cons, List.not_mem_nil, or_false] at hc
  rcases hc with rfl | rfl | rfl | rfl | rfl | rfl | rfl | rfl | rfl | rfl | rfl | rfl | rfl | rfl | rfl | rfl | rfl | rfl | rfl | rfl | rfl
  · exact w_c0
  · exact w_c1
  · exact w_c2
  · exact w_c3
  · exact w_c4
  · exact w_c5
  · exact w_c6
  · exact w_c7
  · exact w_c8
  · exact w_c9
  · exact w_c10
  · exact w_c11
  · exact w_c12
  · exact w_c13
  · exact w_c14
  · exact w_c15
  · exact w_c16
  · exact w_c17
  · exact w_c18
  · exact w_c19
  · exact w_c20
set_option maxRecDepth 65536 in
theorem w_t1 : (words1.take 24).all (fun c => isCode c || c.before args0 about1) = true := by decide +kernel
set_option maxRecDepth 65536 in
theorem w_t2 : ((words1.drop 24).take 24).all (fun c => isCode c || c.before args0 about1) = true := by decide +kernel
set_option maxRecDepth 65536 in
theorem w_t3 : (((words1.drop 24).drop 24).take 24).all (fun c => isCode c || c.before args0 about1) = true := by decide +kernel
set_option maxRecDepth 65536 in
theorem w_t4 : ((((words1.drop 24).drop 24).drop 24).take 24).all (fun c => isCode c || c.before args0 about1) = true := by decide +kernel
set_option maxRecDepth 65536 in
theorem w_t5 : (((((words1.drop 24).drop 24).drop 24).drop 24).take 24).all (fun c => isCode c || c.before args0 about1) = true := by decide +kernel
set_option maxRecDepth 65536 in
theorem w_t6 : (((((words1.drop 24).drop 24).drop 24).drop 24).drop 24).all (fun c => isCode c || c.before args0 about1) = true := by decide +kernel
theorem w_tables : (allAtoms (Jvm.Cond.code x code maxLocals ret :: tables_1)).before args0 about1 = true := by
  rw [allAtoms_all]
  show words1.all (fun c => c.before args0 about1) = true
  refine all_split ?_ w_codes
  rw [← List.take_append_drop 24 words1, List.all_append, w_t1, ← List.take_append_drop 24 (words1.drop 24), List.all_append, w_t2, ← List.take_append_drop 24 ((words1.drop 24).drop 24), List.all_append, w_t3, ← List.take_append_drop 24 (((words1.drop 24).drop 24).drop 24), List.all_append, w_t4, ← List.take_append_drop 24 ((((words1.drop 24).drop 24).drop 24).drop 24), List.all_append, w_t5, w_t6]
  rfl
set_option maxRecDepth 65536 in
theorem w_rest : rest_1_c.before args0 about1 = true := by decide +kernel
set_option maxRecDepth 65536 in
theorem w_case : (Jvm.Cond.and given_1 narrow_1).before args0 about1 = true := by decide +kernel
set_option maxRecDepth 65536 in
theorem w_consts : constsHeld consts_1 about1 := Jvm.Lit.constsHeldB_iff.mp (by decide +kernel)
theorem w_applies : (headSpec (Jvm.Cond.code x code maxLocals ret :: tables_1) room_1).applies x e0.platform about1 = true :=
  (Spec.applies_iff w_frames).mpr ⟨w_running, w_runnable, w_alone, w_named, w_hears, w_ripe, w_room, w_tables⟩
theorem atStart : AtStart classFile x code maxLocals ret World_1 tables_1 room_1 Calls_1 rest_1 Pre_1 launch0 p0 e0 about1 theMethod args0 below0 :=
  ⟨lists_1, trivial, launch0.admits_env _ _ _, launch0.least_env, fairChoices_fair.cas, fairChoices_fair.clock, w_frames, w_args, w_heap, w_applies, ⟨w_consts, trivial⟩, w_rest, w_case⟩
end start1
theorem witness_1 : WitnessClaimed_1 := ⟨start1.p0, start1.e0, start1.about1, start1.theMethod, start1.args0, start1.below0, start1.atStart⟩
end Jvm.Pilot.@@N@@
