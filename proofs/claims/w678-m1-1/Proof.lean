import JvmDerived
import JvmDerived.Pilot.@@N@@Statement
import JvmDerived.Pilot.@@N@@Code
set_option linter.unusedVariables false
set_option linter.unusedSimpArgs false
namespace Jvm.Pilot.@@N@@.W
open Jvm Jvm.ClassFile Sem Op Lib Jvm.Free Jvm.Stand Jvm.LawKit Jvm.RoadKit
/-! String constants: whatever entry of cl the VM holds an object for, that object bears the entry's text; its two cells are none of xs (the places that the walk may write) -/
def Lt (Z : State) (h : Heap) (xs : List Addr) (a : Addr) (units : Array UInt16) : Prop :=
  ∃ (t : Addr) (kb : ClassId), Exa Z h a "java/lang/String" ∧ Fld Z h a "java/lang/String" "value" "[B" (.ref t) ∧ Fld Z h a "java/lang/String" "coder" "B" (.int 0) ∧ Arv Z h t kb .byte (Int32.ofNat units.size) (units.toList.map fun u => Value.int (Jvm.Lit.byteI u)) (.int 0) ∧ a ∉ xs ∧ t ∉ xs
def Lits (Z : State) (cl : List (String × Nat)) (xs : List Addr) (vm : Vm) (h : Heap) : Prop :=
  (∀ x ∈ xs, x < h.size) ∧ ∀ q ∈ cl, ∀ (c : ClassId) (k : Class) (cf : ClassFile) (i : Nat) (units : Array UInt16) (a : Addr), vm.findClass q.1 = some c → vm.classes[c]? = some k → k.cf = some cf → cf.constantPool[q.2]? = some (.string i) → cf.constantPool[i]? = some (.utf8 units) →
    (k.resolved[q.2]? = some (some (.string a)) ∨ (k.resolved[q.2]? = some none ∧ vm.interned.find? (fun p => p.1 == units) = some (units, a))) → Lt Z h xs a units
section LitFacts
variable {Z : State} {cl : List (String × Nat)} {xs : List Addr} {vm : Vm} {h h' : Heap} {a : Addr} {units : Array UInt16}
theorem Lt.ext (F : Lt Z h xs a units) (E : Ext h h') : Lt Z h' xs a units := by
  obtain ⟨t, kb, f1, f2, f3, f4, f5, f6⟩ := F
  exact ⟨t, kb, f1.ext E, f2.ext E, f3.ext E, f4.ext E, f5, f6⟩
theorem Lt.keep {ws : List Addr} (F : Lt Z h xs a units) (K : Keep h h' ws) (hw : ∀ x ∈ ws, x ∈ xs) : Lt Z h' xs a units := by
  obtain ⟨t, kb, f1, f2, f3, f4, f5, f6⟩ := F
  exact ⟨t, kb, f1.keep K, f2.keep K (fun q => f5 (hw _ q)), f3.keep K (fun q => f5 (hw _ q)), f4.keep K (fun q => f6 (hw _ q)), f5, f6⟩
theorem Lt.cons {b : Addr} (F : Lt Z h xs a units) (hb : h.size ≤ b) : Lt Z h (b :: xs) a units := by
  obtain ⟨t, kb, f1, f2, f3, f4, f5, f6⟩ := F
  exact ⟨t, kb, f1, f2, f3, f4, ninS (Nat.ne_of_lt (Nat.lt_of_lt_of_le f1.lt hb)) f5, ninS (Nat.ne_of_lt (Nat.lt_of_lt_of_le f4.lt hb)) f6⟩
theorem Lt.sub {ys : List Addr} (F : Lt Z h xs a units) (hs : ∀ x ∈ ys, x ∈ xs) : Lt Z h ys a units := by
  obtain ⟨t, kb, f1, f2, f3, f4, f5, f6⟩ := F
  exact ⟨t, kb, f1, f2, f3, f4, fun q => f5 (hs _ q), fun q => f6 (hs _ q)⟩
theorem Lits.ext (F : Lits Z cl xs vm h) (E : Ext h h') : Lits Z cl xs vm h' := ⟨fun x hx => Nat.lt_of_lt_of_le (F.1 x hx) E.1, fun q hq c k cf i u a h1 h2 h3 h4 h5 h6 => (F.2 q hq c k cf i u a h1 h2 h3 h4 h5 h6).ext E⟩
theorem Lits.keep {ws : List Addr} (F : Lits Z cl xs vm h) (K : Keep h h' ws) (hw : ∀ x ∈ ws, x ∈ xs) : Lits Z cl xs vm h' := ⟨fun x hx => Nat.lt_of_lt_of_le (F.1 x hx) K.1, fun q hq c k cf i u a h1 h2 h3 h4 h5 h6 => (F.2 q hq c k cf i u a h1 h2 h3 h4 h5 h6).keep K hw⟩
theorem Lits.wr {b : Addr} {sl : Nat} {v : Value} (F : Lits Z cl xs vm h) (W : Wr h h' b sl v) (hb : b ∈ xs) : Lits Z cl xs vm h' := F.keep (Keep.of_wr W) (allS hb all0)
theorem Lits.cons {b : Addr} (F : Lits Z cl xs vm h) (hb : h.size ≤ b) (E : Ext h h') (hb' : b < h'.size) : Lits Z cl (b :: xs) vm h' := ⟨allS hb' fun x hx => Nat.lt_of_lt_of_le (F.1 x hx) E.1, fun q hq c k cf i u a h1 h2 h3 h4 h5 h6 => ((F.2 q hq c k cf i u a h1 h2 h3 h4 h5 h6).cons hb).ext E⟩
theorem Lits.sub {ys : List Addr} (F : Lits Z cl xs vm h) (hs : ∀ x ∈ ys, x ∈ xs) : Lits Z cl ys vm h := ⟨fun x hx => F.1 x (hs x hx), fun q hq c k cf i u a h1 h2 h3 h4 h5 h6 => (F.2 q hq c k cf i u a h1 h2 h3 h4 h5 h6).sub hs⟩
/-- the tables are warmer, the intern table at most one pair longer, whose object bears that pair's text -/
theorem Lits.step {s : State} {vm0 vm1 : Vm} (F : Lits Z cl xs vm0 h) (hsv : s.vm = vm0) (hW : s.Warmed39 vm1) (hi : vm1.interned = vm0.interned ∨ ∃ (units : Array UInt16) (a : Addr), vm1.interned = vm0.interned.push (units, a) ∧ Lt Z h xs a units) : Lits Z cl xs vm1 h := by
  subst hsv
  refine ⟨F.1, ?_⟩
  intro q hq c k1 cf i us b h1 h2 h3 h4 h5 h6
  have hf0 : s.vm.findClass q.1 = some c := by rw [← hW.alike.findClass]; exact h1
  obtain ⟨k0, hk0, -⟩ := Vm.findClass_spec hf0
  obtain ⟨k1', e1, e2, e3, e4, -⟩ := hW.2.2.2 c k0 hk0
  cases h2.symm.trans e1
  have hcf0 : k0.cf = some cf := by rw [e2] at h3; exact h3
  -- what the longer intern table finds
  have fnd : vm1.interned.find? (fun p => p.1 == us) = some (us, b) → s.vm.interned.find? (fun p => p.1 == us) = some (us, b) ∨ (s.vm.interned.find? (fun p => p.1 == us) = none ∧ Lt Z h xs b us) := fun hf => by
    rcases hi with hi | ⟨u0, a0, hi, hl⟩
    · exact Or.inl (by rw [← hi]; exact hf)
    · rw [hi, Array.find?_push] at hf
      cases hs : s.vm.interned.find? (fun p => p.1 == us) with
      | some z => rw [hs] at hf; exact Or.inl (by simpa using hf)
      | none =>
        rw [hs] at hf
        simp only [Option.none_or] at hf
        split at hf
        · cases hf; exact Or.inr ⟨rfl, hl⟩
        · cases hf
  have fin0 : k0.resolved[q.2]? = some none → vm1.interned.find? (fun p => p.1 == us) = some (us, b) → Lt Z h xs b us := fun ho hf => by
    rcases fnd hf with g | g
    · exact F.2 q hq c k0 cf i us b hf0 hk0 hcf0 h4 h5 (Or.inr ⟨ho, g⟩)
    · exact g.2
  rcases e4 q.2 with e0 | ⟨ho, r, e5, hr | ⟨a', text, si, us', rfl, -, q3, q4, q5⟩⟩
  · rcases h6 with h6 | ⟨h6, h7⟩
    · exact F.2 q hq c k0 cf i us b hf0 hk0 hcf0 h4 h5 (Or.inl (e0.symm.trans h6))
    · exact fin0 (e0.symm.trans h6) h7
  · exfalso
    rcases h6 with h6 | ⟨h6, -⟩
    · cases e5.symm.trans h6
      simp [State.rightAt, hk0, hcf0] at hr
    · cases e5.symm.trans h6
  · rcases h6 with h6 | ⟨h6, -⟩
    · cases e5.symm.trans h6
      rw [hcf0] at q3 q4
      have e7 : si = i := by
        have z := q3.symm.trans h4
        simpa using z
      subst e7
      have e8 : us' = us := by simpa [ConstantPool.utf8?, h5] using q4.symm
      subst e8
      exact fin0 ho q5
    · cases e5.symm.trans h6
/-- what the library says of a constant's object, in the facts' words -/
theorem lt_core {U : State} {q : SB.SQ} {cS : ClassId} (hal : Z.vm.Alike U.vm) (hlat : units.all (· < 256) = true) (hsl : SBG.Sl q cS U) (hkS : ∃ kS : Class, U.vm.classes[cS]? = some kS ∧ kS.kind = .ordinary ∧ q.sC.slots.size = kS.instanceTypes.size) (hB : U.vm.findClass "[B" = some q.SA.cls) (hbyt : q.SA.slots = stringBytes units) (ha : q.sa ∉ xs) (ht : q.sd ∉ xs) : Lt Z U.heap xs q.sa units := by
  obtain ⟨⟨s1, s2, s3, ⟨cv, kv, iv, s4, s4'⟩, ⟨cc, kc, ic, s5, s5'⟩, s6, s7, s8, s9, s10, s11, s12, s13, s14, s15, s16⟩, hfS, hcS⟩ := hsl
  obtain ⟨kS, k1, k2, k3⟩ := hkS
  obtain ⟨kv', z4⟩ := ff_back hal s4
  obtain ⟨kc', z5⟩ := ff_back hal s5
  have hfZ : Z.vm.findClass "java/lang/String" = some q.sC.cls := by rw [← hal.findClass, hcS]; exact hfS
  obtain ⟨kz, hkz, -⟩ := Vm.findClass_spec hfZ
  obtain ⟨kz', hkz', ekz⟩ := hal.2.2 _ _ hkz
  have ekS : kz' = kS := Option.some.inj (hkz'.symm.trans (hcS ▸ k1))
  have hBZ : Z.vm.findClass "[B" = some q.SA.cls := by rw [← hal.findClass]; exact hB
  obtain ⟨kb, hkb, -⟩ := Vm.findClass_spec hBZ
  obtain ⟨kb', hkb', ekb⟩ := hal.2.2 _ _ hkb
  obtain ⟨hst, k9, hk9, comp, hkind9⟩ := s11
  have ek9 : k9 = kb' := Option.some.inj (hk9.symm.trans hkb')
  have hAZ : Z.isArrayOf q.SA .byte := ⟨hst, kb, hkb, comp, by rw [ek9, ekb] at hkind9; exact hkind9⟩
  have hsl : q.SA.slots = units.map fun u => Value.int (Jvm.Lit.byteI u) := by rw [hbyt, SBG.stringBytes_lat hlat]; rfl
  have hsz : q.SA.slots.size = units.size := by rw [hsl, Array.size_map]
  have hb31 : units.size < 2 ^ 31 := by rw [← hsz, s13]; exact s14
  have hnn : ¬ Int32.ofNat units.size < 0 := by
    rw [Int32.lt_iff_toInt_lt, Int32.toInt_ofNat_small hb31]; have : (0 : Int32).toInt = 0 := rfl; omega
  have hnc : (Int32.ofNat units.size).toNatClampNeg = units.size := by
    show (Int32.ofNat units.size).toInt.toNat = _
    rw [Int32.toInt_ofNat_small hb31]; simp
  have H : Has q.SA (units.toList.map fun u => Value.int (Jvm.Lit.byteI u)) (.int 0) := fun j hj => by
    have hj' : j < units.size := by omega
    rw [hsl]; simp [hj']
  refine ⟨q.sd, q.SA.cls, ⟨q.sC, kz, s1, hfZ, hkz, s3, fun ho => by rw [k3, ← ekS, ekz]⟩, ⟨q.sC, cv, kv', iv, q.fSV, s1, z4, s6, s2, s3, by rw [← hal.assignable]; exact s4', s8⟩, ⟨q.sC, cc, kc', ic, q.fSC, s1, z5, s7, s2, s3, by rw [← hal.assignable]; exact s5', s9⟩, ⟨q.SA, ⟨s10, hAZ, s12⟩, rfl, by rw [hsz, hnc], hnn, H, fun j hj => ?_⟩, ha, ht⟩
  have e1 := s16 j hj
  have e2 := H j hj
  rw [SBG.getD_of e2] at e1
  exact e1
theorem lt_of_sl {U : State} (hal : Z.vm.Alike U.vm) (hlat : units.all (· < 256) = true) (F : SlOf U a units) : Lt Z U.heap [] a units := by
  obtain ⟨q, cS, rfl, hsl, hkS, hB, hbyt⟩ := F
  exact lt_core hal hlat hsl hkS hB hbyt nin0 nin0
/-- at the case's start -/
theorem Lits.start {a0 : Array Value} (hh : ∀ q ∈ cl, Jvm.Lit.constHeld Z q.1 q.2) (hl : ∀ q ∈ cl, ∃ text : String, (Cond.stringLink q.1 q.2 text).before a0 Z = true ∧ ∀ c ∈ text.toList, c.toNat < 256) (hcw : Jvm.Lit.compactW.before a0 Z = true) (wa : (Cond.arrayClass .byte).before a0 Z = true) (wi : (Cond.instantiable "java/lang/String" 4).before a0 Z = true) : Lits Z cl [] Z.vm Z.heap := by
  refine ⟨all0, ?_⟩
  intro q hq c k cf i us b h1 h2 h3 h4 h5 h6
  obtain ⟨text, w, ht⟩ := hl q hq
  obtain ⟨k', cf', i', us', hk', hcf', hp', hu', -, htext, -⟩ := Cond.stringLink_spec h1 w
  cases h2.symm.trans hk'
  cases h3.symm.trans hcf'
  cases h4.symm.trans hp'
  cases h5.symm.trans hu'
  exact lt_of_sl (Vm.Alike.refl _) (Jvm.ClassFile.lat_of_text htext ht) (heldStart (hh q hq) w ht hcw wa wi c k cf i us b h1 h2 h3 h4 h5 h6)
end LitFacts
/-- what stays fixed in a body's walk, the tables left out -/
def Cx0 (bytes : ByteArray) (maxL : Nat) (ret : Option FieldType) (mn : String) (p : Program) (meth : Method) (c : Code) : Prop :=
  p.tables.exec = Jvm.exec ∧ c.code = bytes ∧ c.maxLocals = maxL ∧ meth.sig.returnType = ret ∧ meth.locks = false ∧ meth.name = mn
/-- and with the tables at hand -/
def Cx (Z : State) (own : String) (bytes : ByteArray) (maxL : Nat) (ret : Option FieldType) (mn : String) (p : Program) (s : State) (m : MethodId) (meth : Method) (c : Code) : Prop :=
  p.tables.exec = Jvm.exec ∧ Z.Warmed39 s.vm ∧ s.vm.findClass own = some m.cls ∧ c.code = bytes ∧ c.maxLocals = maxL ∧ meth.sig.returnType = ret ∧ meth.locks = false ∧ meth.name = mn
/-- from the frame f at the heap h on, the body runs to its end and leaves Q; String constants may come to be loaded -/
def Go (p : Program) (l : Launch) (e : Env) (R : Room) (s : State) (m : MethodId) (args : Array Value) (below : List Frame) (meth : Method) (c : Code) (Z : State) (own : String) (cl : List (String × Nat)) (xs0 : List Addr) (n0 kc ks : Nat) (Q : Option Value → Heap → Prop) (xs : List Addr) (h : Heap) (cells slots : Nat) (f : JFrame) : Prop :=
  ∀ (T : State) (locs : List Loc) (vm0 : Vm) (k0 : Nat), Stand p l e R (s.setVm vm0) m args below meth c T locs cells slots → s.Since vm0 k0 → k0 ≤ h.size → Z.Warmed39 vm0 → vm0.findClass own = some m.cls → T.heap = h → Fr n0 locs → Lits Z cl xs vm0 h →
    ∃ s₂ o, Steps p.tables e below (T.setTop f) s₂ ∧ s₂.status = .running ∧ Ended s₂ below o ∧ ∃ v L, o = .returned v ∧ (Q v s₂.heap ∧ Lits Z cl xs0 s₂.vm s₂.heap ∧ Fr n0 L) ∧ ReturnedEndW s o s₂ L kc ks
/-- a body's contract: called with as' at the heap h it returns, and Q holds -/
def Ctr (l : Launch) (Z : State) (cl : List (String × Nat)) (xs : List Addr) (n0 : Nat) (y : MethodName) (bytes : ByteArray) (maxL : Nat) (ret : Option FieldType) (ws : List Cond) (rm : Room) (as' : Array Value) (h : Heap) (Q : Option Value → Heap → Prop) : Prop :=
  MetFree l y (head1 (Cond.code y bytes maxL ret :: ws) rm) (fun a U => a = as' ∧ Z.Warmed39 U.vm ∧ U.heap = h ∧ Lits Z cl xs U.vm h) (fun _ _ _ _ _ => True) (fun _ U o U' => ∃ v L, o = .returned v ∧ (Q v U'.heap ∧ Lits Z cl xs U'.vm U'.heap ∧ Fr n0 L) ∧ ReturnedEndW U o U' L rm.cells rm.slots)
theorem Ctr.body {l : Launch} {Z : State} {cl : List (String × Nat)} {xs : List Addr} {n0 : Nat} {y : MethodName} {bytes : ByteArray} {maxL : Nat} {ret : Option FieldType} {ws : List Cond} {rm : Room} {as' : Array Value} {h : Heap} {Q : Option Value → Heap → Prop}
    (hp : plainFor y = true)
    (body : ∀ p e s m below meth c, Cx0 bytes maxL ret y.name p meth c → Go p l e rm s m as' below meth c Z y.cls cl xs n0 rm.cells rm.slots Q xs h 0 0 (entryFrame m as' maxL)) : Ctr l Z cl xs n0 y bytes maxL ret ws rm as' h Q := by
  refine MetFree.of_bodySF hp hisR ?_
  intro p e s m args below meth c s₁ Bd hml0 hP hK
  obtain ⟨rfl, hZ, hh, hL⟩ := hP
  exact body p e s m below meth c ⟨Bd.exec, Bd.bytes, hml0, Bd.returns, Bd.notSynchronized, (name_of_methodNamed Bd.named Bd.method).1⟩ s₁ [] s.vm 0 (Stand.of_body Bd) ((State.WarmedH.refl s).since 0) (Nat.zero_le _) hZ (findClass_of_methodNamed Bd.named) (by rw [← hh, Bd.state]; rfl) (Fr.nil n0) hL
theorem Ctr.mono {l : Launch} {Z : State} {cl : List (String × Nat)} {xs : List Addr} {n0 : Nat} {y : MethodName} {bytes : ByteArray} {maxL : Nat} {ret : Option FieldType} {ws : List Cond} {rm : Room} {as' : Array Value} {h : Heap} {Q Q' : Option Value → Heap → Prop}
    (C : Ctr l Z cl xs n0 y bytes maxL ret ws rm as' h Q) (hq : ∀ v h', Q v h' → Q' v h') : Ctr l Z cl xs n0 y bytes maxL ret ws rm as' h Q' := by
  intro p e ha hc hk s m args below hf happ hP hK
  obtain ⟨n, o, h1, h2, h3, v, L, h4, ⟨h5, h6⟩, h7⟩ := C p e ha hc hk s m args below hf happ hP hK
  exact ⟨n, o, h1, h2, h3, v, L, h4, ⟨hq _ _ h5, h6⟩, h7⟩
def cdP (cd : ClassFile.Cond) (x y : Int32) : Prop := match cd with
  | .eq => x = y
  | .ne => ¬ x = y
  | .lt => x < y
  | .ge => ¬ x < y
  | .gt => y < x
  | .le => ¬ y < x
def cdN (cd : ClassFile.Cond) (x y : Int32) : Prop := match cd with
  | .eq => ¬ x = y
  | .ne => x = y
  | .lt => ¬ x < y
  | .ge => x < y
  | .gt => ¬ y < x
  | .le => y < x
theorem cd_yes {cd : ClassFile.Cond} {x y : Int32} (h : cdP cd x y) : if_icmp.holds cd x y = true := by
  cases cd
  · exact (teq h).1
  · exact (feq h).2
  · exact (tlt h).1
  · exact (flt h).2.1
  · exact (tlt h).2.2.1
  · exact (flt h).2.2.2
theorem cd_no {cd : ClassFile.Cond} {x y : Int32} (h : cdN cd x y) : if_icmp.holds cd x y = false := by
  cases cd
  · exact (feq h).1
  · exact (teq h).2
  · exact (flt h).1
  · exact (tlt h).2.1
  · exact (flt h).2.2.1
  · exact (tlt h).2.2.2
theorem cd_em (cd : ClassFile.Cond) (x y : Int32) : cdP cd x y ∨ cdN cd x y := by
  cases cd
  · exact Decidable.em (x = y)
  · exact (Decidable.em (x = y)).symm
  · exact Decidable.em (x < y)
  · exact (Decidable.em (x < y)).symm
  · exact Decidable.em (y < x)
  · exact (Decidable.em (y < x)).symm
section Rules
variable {p : Program} {l : Launch} {e : Env} {R : Room} {s : State} {m : MethodId} {args : Array Value} {below : List Frame} {meth : Method} {c : Code} {Z : State} {a0 : Array Value} {own mn : String} {cl : List (String × Nat)} {xs0 xs : List Addr} {bytes : ByteArray} {maxL : Nat} {ret : Option FieldType} {n0 kc ks : Nat} {Q : Option Value → Heap → Prop} {h : Heap} {cells slots : Nat} {pc q : Nat} {L : Array Slot} {S : List Value}
theorem Cx0.at {s' : State} (K : Cx0 bytes maxL ret mn p meth c) (hZ : Z.Warmed39 s'.vm) (ho : s'.vm.findClass own = some m.cls) : Cx Z own bytes maxL ret mn p s' m meth c := ⟨K.1, hZ, ho, K.2⟩
theorem Go.of_step {f f' : JFrame} (K : Cx0 bytes maxL ret mn p meth c) (st : ∀ s', Cx Z own bytes maxL ret mn p s' m meth c → ∀ T locs, Stand p l e R s' m args below meth c T locs cells slots → T.heap = h → ∀ t, Steps p.tables e below (T.setTop f') t → Steps p.tables e below (T.setTop f) t) (k : Go p l e R s m args below meth c Z own cl xs0 n0 kc ks Q xs h cells slots f') : Go p l e R s m args below meth c Z own cl xs0 n0 kc ks Q xs h cells slots f := fun T locs vm0 k0 X hS hk hZ ho eT N H => by
  obtain ⟨s₂, o, a1, a2⟩ := k T locs vm0 k0 X hS hk hZ ho eT N H
  exact ⟨s₂, o, st (s.setVm vm0) (K.at hZ ho) T locs X eT _ a1, a2⟩
/-- a step that warms the tables, the heap as it was -/
theorem Go.of_warm {f f' : JFrame} (K : Cx0 bytes maxL ret mn p meth c) (st : ∀ s', Cx Z own bytes maxL ret mn p s' m meth c → ∀ T locs, Stand p l e R s' m args below meth c T locs cells slots → T.heap = h → ∃ T', Stand p l e R s' m args below meth c T' locs cells slots ∧ T'.heap = h ∧ ∀ t, Steps p.tables e below (T'.setTop f') t → Steps p.tables e below (T.setTop f) t) (k : Go p l e R s m args below meth c Z own cl xs0 n0 kc ks Q xs h cells slots f') : Go p l e R s m args below meth c Z own cl xs0 n0 kc ks Q xs h cells slots f := fun T locs vm0 k0 X hS hk hZ ho eT N H => by
  obtain ⟨T', X', eT', st'⟩ := st (s.setVm vm0) (K.at hZ ho) T locs X eT
  obtain ⟨s₂, o, a1, a2⟩ := k T' locs vm0 k0 X' hS hk hZ ho eT' N H
  exact ⟨s₂, o, st' _ a1, a2⟩
/-- a step that makes or writes -/
theorem Go.of_heap {f : JFrame} {cells' slots' : Nat} (K : Cx0 bytes maxL ret mn p meth c) (st : ∀ s', Cx Z own bytes maxL ret mn p s' m meth c → ∀ T locs, Stand p l e R s' m args below meth c T locs cells slots → T.heap = h → Fr n0 locs → ∃ (T' : State) (h' : Heap) (locs' : List Loc) (f' : JFrame) (xs' : List Addr), Stand p l e R s' m args below meth c T' locs' cells' slots' ∧ T'.heap = h' ∧ h.size ≤ h'.size ∧ Fr n0 locs' ∧ (∀ vm, Lits Z cl xs vm h → Lits Z cl xs' vm h') ∧ (∀ t, Steps p.tables e below (T'.setTop f') t → Steps p.tables e below (T.setTop f) t) ∧ Go p l e R s m args below meth c Z own cl xs0 n0 kc ks Q xs' h' cells' slots' f') : Go p l e R s m args below meth c Z own cl xs0 n0 kc ks Q xs h cells slots f := fun T locs vm0 k0 X hS hk hZ ho eT N H => by
  obtain ⟨T', h', locs', f', xs', X', eT', hsz, N', H', st', k⟩ := st (s.setVm vm0) (K.at hZ ho) T locs X eT N
  obtain ⟨s₂, o, a1, a2⟩ := k T' locs' vm0 k0 X' hS (Nat.le_trans hk hsz) hZ ho eT' N' (H' _ H)
  exact ⟨s₂, o, st' _ a1, a2⟩
theorem Go.entry {f f' : JFrame} (q : f = f') (k : Go p l e R s m args below meth c Z own cl xs0 n0 kc ks Q xs h cells slots f') : Go p l e R s m args below meth c Z own cl xs0 n0 kc ks Q xs h cells slots f := q ▸ k
theorem Go.weaken {f : JFrame} {Q' : Option Value → Heap → Prop} (k : Go p l e R s m args below meth c Z own cl xs0 n0 kc ks Q' xs h cells slots f) (hq : ∀ v h', Q' v h' → Q v h') : Go p l e R s m args below meth c Z own cl xs0 n0 kc ks Q xs h cells slots f := fun T locs vm0 k0 X hS hk hZ ho eT N H => by
  obtain ⟨s₂, o, a1, a2, a3, v, L, a4, ⟨a5, a6⟩, a7⟩ := k T locs vm0 k0 X hS hk hZ ho eT N H
  exact ⟨s₂, o, a1, a2, a3, v, L, a4, ⟨hq _ _ a5, a6⟩, a7⟩
/-- more cells and slots may be booked -/
theorem Go.more {f : JFrame} {cells' slots' : Nat} (hc : cells ≤ cells') (hs : slots ≤ slots') (k : Go p l e R s m args below meth c Z own cl xs0 n0 kc ks Q xs h cells' slots' f) : Go p l e R s m args below meth c Z own cl xs0 n0 kc ks Q xs h cells slots f := fun T locs vm0 k0 X hS hk hZ ho eT N H => k T locs vm0 k0 (X.more hc hs) hS hk hZ ho eT N H
/-- fewer places are kept apart -/
theorem Go.less {f : JFrame} {ys : List Addr} (hs : ∀ x ∈ ys, x ∈ xs) (k : Go p l e R s m args below meth c Z own cl xs0 n0 kc ks Q ys h cells slots f) : Go p l e R s m args below meth c Z own cl xs0 n0 kc ks Q xs h cells slots f := fun T locs vm0 k0 X hS hk hZ ho eT N H => k T locs vm0 k0 X hS hk hZ ho eT N (H.sub hs)
theorem Go.aloadN (K : Cx0 bytes maxL ret mn p meth c) (hq : pc + 1 = q) {k : Fin 4} {v : Value} (hd : decode bytes pc = .ok (.aload_n k, 1)) (hl : L[k.val]? = some (.val v)) (hv : v.isRef = true) (r : Go p l e R s m args below meth c Z own cl xs0 n0 kc ks Q xs h cells slots (mkF m q L (v :: S))) : Go p l e R s m args below meth c Z own cl xs0 n0 kc ks Q xs h cells slots (mkF m pc L S) := Go.of_step K (fun s' K T locs X _ t k => by subst hq; exact XS.aloadN (g := mkF m pc L S) X.here K.1 rfl (hb K.2.2.2.1 hd) hl hv k) r
theorem Go.aload (K : Cx0 bytes maxL ret mn p meth c) (hq : pc + 2 = q) {k : Nat} {v : Value} (hd : decode bytes pc = .ok (.aload k, 2)) (hl : L[k]? = some (.val v)) (hv : v.isRef = true) (r : Go p l e R s m args below meth c Z own cl xs0 n0 kc ks Q xs h cells slots (mkF m q L (v :: S))) : Go p l e R s m args below meth c Z own cl xs0 n0 kc ks Q xs h cells slots (mkF m pc L S) := Go.of_step K (fun s' K T locs X _ t k => by subst hq; exact XS.aload (g := mkF m pc L S) X.here K.1 rfl (hb K.2.2.2.1 hd) hl hv k) r
theorem Go.iloadN (K : Cx0 bytes maxL ret mn p meth c) (hq : pc + 1 = q) {k : Fin 4} {v : Int32} (hd : decode bytes pc = .ok (.iload_n k, 1)) (hl : L[k.val]? = some (.val (.int v))) (r : Go p l e R s m args below meth c Z own cl xs0 n0 kc ks Q xs h cells slots (mkF m q L (.int v :: S))) : Go p l e R s m args below meth c Z own cl xs0 n0 kc ks Q xs h cells slots (mkF m pc L S) := Go.of_step K (fun s' K T locs X _ t k => by subst hq; exact XS.iloadN (g := mkF m pc L S) X.here K.1 rfl (hb K.2.2.2.1 hd) hl k) r
theorem Go.iload (K : Cx0 bytes maxL ret mn p meth c) (hq : pc + 2 = q) {k : Nat} {v : Int32} (hd : decode bytes pc = .ok (.iload k, 2)) (hl : L[k]? = some (.val (.int v))) (r : Go p l e R s m args below meth c Z own cl xs0 n0 kc ks Q xs h cells slots (mkF m q L (.int v :: S))) : Go p l e R s m args below meth c Z own cl xs0 n0 kc ks Q xs h cells slots (mkF m pc L S) := Go.of_step K (fun s' K T locs X _ t k => by subst hq; exact XS.iload (g := mkF m pc L S) X.here K.1 rfl (hb K.2.2.2.1 hd) hl k) r
theorem Go.lloadN (K : Cx0 bytes maxL ret mn p meth c) (hq : pc + 1 = q) {k : Fin 4} {v : Int64} (hd : decode bytes pc = .ok (.lload_n k, 1)) (hl : L[k.val]? = some (.val (.long v))) (r : Go p l e R s m args below meth c Z own cl xs0 n0 kc ks Q xs h cells slots (mkF m q L (.long v :: S))) : Go p l e R s m args below meth c Z own cl xs0 n0 kc ks Q xs h cells slots (mkF m pc L S) := Go.of_step K (fun s' K T locs X _ t k => by subst hq; exact XS.lloadN (g := mkF m pc L S) X.here K.1 rfl (hb K.2.2.2.1 hd) hl k) r
theorem Go.lload (K : Cx0 bytes maxL ret mn p meth c) (hq : pc + 2 = q) {k : Nat} {v : Int64} (hd : decode bytes pc = .ok (.lload k, 2)) (hl : L[k]? = some (.val (.long v))) (r : Go p l e R s m args below meth c Z own cl xs0 n0 kc ks Q xs h cells slots (mkF m q L (.long v :: S))) : Go p l e R s m args below meth c Z own cl xs0 n0 kc ks Q xs h cells slots (mkF m pc L S) := Go.of_step K (fun s' K T locs X _ t k => by subst hq; exact XS.lload (g := mkF m pc L S) X.here K.1 rfl (hb K.2.2.2.1 hd) hl k) r
theorem Go.iconst (K : Cx0 bytes maxL ret mn p meth c) (hq : pc + 1 = q) {i : Int} {v : Int32} (hv : Int32.ofInt i = v) (hd : decode bytes pc = .ok (.iconst i, 1)) (r : Go p l e R s m args below meth c Z own cl xs0 n0 kc ks Q xs h cells slots (mkF m q L (.int v :: S))) : Go p l e R s m args below meth c Z own cl xs0 n0 kc ks Q xs h cells slots (mkF m pc L S) := Go.of_step K (fun s' K T locs X _ t k => by subst hq hv; exact XS.iconst (g := mkF m pc L S) X.here K.1 rfl (hb K.2.2.2.1 hd) k) r
theorem Go.bipush (K : Cx0 bytes maxL ret mn p meth c) (hq : pc + 2 = q) {i : Int} {v : Int32} (hv : (Int8.ofInt i).toInt32 = v) (hd : decode bytes pc = .ok (.bipush i, 2)) (r : Go p l e R s m args below meth c Z own cl xs0 n0 kc ks Q xs h cells slots (mkF m q L (.int v :: S))) : Go p l e R s m args below meth c Z own cl xs0 n0 kc ks Q xs h cells slots (mkF m pc L S) := Go.of_step K (fun s' K T locs X _ t k => by subst hq hv; exact XS.bipush (g := mkF m pc L S) X.here K.1 rfl (hb K.2.2.2.1 hd) k) r
theorem Go.sipush (K : Cx0 bytes maxL ret mn p meth c) (hq : pc + 3 = q) {i : Int} {v : Int32} (hv : (Int16.ofInt i).toInt32 = v) (hd : decode bytes pc = .ok (.sipush i, 3)) (r : Go p l e R s m args below meth c Z own cl xs0 n0 kc ks Q xs h cells slots (mkF m q L (.int v :: S))) : Go p l e R s m args below meth c Z own cl xs0 n0 kc ks Q xs h cells slots (mkF m pc L S) := Go.of_step K (fun s' K T locs X _ t k => by subst hq hv; exact XS.sipush (g := mkF m pc L S) X.here K.1 rfl (hb K.2.2.2.1 hd) k) r
theorem Go.aconstNull (K : Cx0 bytes maxL ret mn p meth c) (hq : pc + 1 = q) (hd : decode bytes pc = .ok (.aconst_null, 1)) (r : Go p l e R s m args below meth c Z own cl xs0 n0 kc ks Q xs h cells slots (mkF m q L (.null :: S))) : Go p l e R s m args below meth c Z own cl xs0 n0 kc ks Q xs h cells slots (mkF m pc L S) := Go.of_step K (fun s' K T locs X _ t k => by subst hq; exact XS.aconstNull (g := mkF m pc L S) X.here K.1 rfl (hb K.2.2.2.1 hd) k) r
theorem Go.ldcInt (K : Cx0 bytes maxL ret mn p meth c) (hq : pc + 2 = q) {i : Nat} {v : Int32} (w : (Cond.constant own i v).before a0 Z = true) (hd : decode bytes pc = .ok (.ldc i, 2)) (r : Go p l e R s m args below meth c Z own cl xs0 n0 kc ks Q xs h cells slots (mkF m q L (.int v :: S))) : Go p l e R s m args below meth c Z own cl xs0 n0 kc ks Q xs h cells slots (mkF m pc L S) := Go.of_step K (fun s' K T locs X _ t k => by subst hq; exact X.ldcInt K.1 K.2.2.1 (mvT K.2.1 w) (g := mkF m pc L S) rfl (hb K.2.2.2.1 hd) _ k) r
theorem Go.ldc2Long (K : Cx0 bytes maxL ret mn p meth c) (hq : pc + 3 = q) {i : Nat} {v : Int64} (w : (Cond.constantLong own i v).before a0 Z = true) (hd : decode bytes pc = .ok (.ldc2_w i, 3)) (r : Go p l e R s m args below meth c Z own cl xs0 n0 kc ks Q xs h cells slots (mkF m q L (.long v :: S))) : Go p l e R s m args below meth c Z own cl xs0 n0 kc ks Q xs h cells slots (mkF m pc L S) := Go.of_step K (fun s' K T locs X _ t k => by subst hq; exact X.ldc2Long K.1 K.2.2.1 (mvT K.2.1 w) (g := mkF m pc L S) rfl (hb K.2.2.2.1 hd) _ k) r
theorem Go.iadd (K : Cx0 bytes maxL ret mn p meth c) (hq : pc + 1 = q) {x y : Int32} (hd : decode bytes pc = .ok (.iadd, 1)) (r : Go p l e R s m args below meth c Z own cl xs0 n0 kc ks Q xs h cells slots (mkF m q L (.int (x + y) :: S))) : Go p l e R s m args below meth c Z own cl xs0 n0 kc ks Q xs h cells slots (mkF m pc L (.int y :: .int x :: S)) := Go.of_step K (fun s' K T locs X _ t k => by subst hq; exact XS.iadd (g := mkF m pc L (.int y :: .int x :: S)) X.here K.1 rfl (hb K.2.2.2.1 hd) rfl k) r
theorem Go.isub (K : Cx0 bytes maxL ret mn p meth c) (hq : pc + 1 = q) {x y : Int32} (hd : decode bytes pc = .ok (.isub, 1)) (r : Go p l e R s m args below meth c Z own cl xs0 n0 kc ks Q xs h cells slots (mkF m q L (.int (x - y) :: S))) : Go p l e R s m args below meth c Z own cl xs0 n0 kc ks Q xs h cells slots (mkF m pc L (.int y :: .int x :: S)) := Go.of_step K (fun s' K T locs X _ t k => by subst hq; exact XS.isub (g := mkF m pc L (.int y :: .int x :: S)) X.here K.1 rfl (hb K.2.2.2.1 hd) rfl k) r
theorem Go.imul (K : Cx0 bytes maxL ret mn p meth c) (hq : pc + 1 = q) {x y : Int32} (hd : decode bytes pc = .ok (.imul, 1)) (r : Go p l e R s m args below meth c Z own cl xs0 n0 kc ks Q xs h cells slots (mkF m q L (.int (x * y) :: S))) : Go p l e R s m args below meth c Z own cl xs0 n0 kc ks Q xs h cells slots (mkF m pc L (.int y :: .int x :: S)) := Go.of_step K (fun s' K T locs X _ t k => by subst hq; exact XS.imul (g := mkF m pc L (.int y :: .int x :: S)) X.here K.1 rfl (hb K.2.2.2.1 hd) rfl k) r
theorem Go.iand (K : Cx0 bytes maxL ret mn p meth c) (hq : pc + 1 = q) {x y : Int32} (hd : decode bytes pc = .ok (.iand, 1)) (r : Go p l e R s m args below meth c Z own cl xs0 n0 kc ks Q xs h cells slots (mkF m q L (.int (x &&& y) :: S))) : Go p l e R s m args below meth c Z own cl xs0 n0 kc ks Q xs h cells slots (mkF m pc L (.int y :: .int x :: S)) := Go.of_step K (fun s' K T locs X _ t k => by subst hq; exact XS.iand (g := mkF m pc L (.int y :: .int x :: S)) X.here K.1 rfl (hb K.2.2.2.1 hd) rfl k) r
theorem Go.ior (K : Cx0 bytes maxL ret mn p meth c) (hq : pc + 1 = q) {x y : Int32} (hd : decode bytes pc = .ok (.ior, 1)) (r : Go p l e R s m args below meth c Z own cl xs0 n0 kc ks Q xs h cells slots (mkF m q L (.int (x ||| y) :: S))) : Go p l e R s m args below meth c Z own cl xs0 n0 kc ks Q xs h cells slots (mkF m pc L (.int y :: .int x :: S)) := Go.of_step K (fun s' K T locs X _ t k => by subst hq; exact XS.ior (g := mkF m pc L (.int y :: .int x :: S)) X.here K.1 rfl (hb K.2.2.2.1 hd) rfl k) r
theorem Go.ixor (K : Cx0 bytes maxL ret mn p meth c) (hq : pc + 1 = q) {x y : Int32} (hd : decode bytes pc = .ok (.ixor, 1)) (r : Go p l e R s m args below meth c Z own cl xs0 n0 kc ks Q xs h cells slots (mkF m q L (.int (x ^^^ y) :: S))) : Go p l e R s m args below meth c Z own cl xs0 n0 kc ks Q xs h cells slots (mkF m pc L (.int y :: .int x :: S)) := Go.of_step K (fun s' K T locs X _ t k => by subst hq; exact XS.ixor (g := mkF m pc L (.int y :: .int x :: S)) X.here K.1 rfl (hb K.2.2.2.1 hd) rfl k) r
theorem Go.ishl (K : Cx0 bytes maxL ret mn p meth c) (hq : pc + 1 = q) {x y : Int32} (hd : decode bytes pc = .ok (.ishl, 1)) (r : Go p l e R s m args below meth c Z own cl xs0 n0 kc ks Q xs h cells slots (mkF m q L (.int (x <<< (y &&& 31)) :: S))) : Go p l e R s m args below meth c Z own cl xs0 n0 kc ks Q xs h cells slots (mkF m pc L (.int y :: .int x :: S)) := Go.of_step K (fun s' K T locs X _ t k => by subst hq; exact XS.ishl (g := mkF m pc L (.int y :: .int x :: S)) X.here K.1 rfl (hb K.2.2.2.1 hd) rfl k) r
theorem Go.ishr (K : Cx0 bytes maxL ret mn p meth c) (hq : pc + 1 = q) {x y : Int32} (hd : decode bytes pc = .ok (.ishr, 1)) (r : Go p l e R s m args below meth c Z own cl xs0 n0 kc ks Q xs h cells slots (mkF m q L (.int (x >>> (y &&& 31)) :: S))) : Go p l e R s m args below meth c Z own cl xs0 n0 kc ks Q xs h cells slots (mkF m pc L (.int y :: .int x :: S)) := Go.of_step K (fun s' K T locs X _ t k => by subst hq; exact XS.ishr (g := mkF m pc L (.int y :: .int x :: S)) X.here K.1 rfl (hb K.2.2.2.1 hd) rfl k) r
theorem Go.iushr (K : Cx0 bytes maxL ret mn p meth c) (hq : pc + 1 = q) {x y : Int32} (hd : decode bytes pc = .ok (.iushr, 1)) (r : Go p l e R s m args below meth c Z own cl xs0 n0 kc ks Q xs h cells slots (mkF m q L (.int ((x.toUInt32 >>> (y &&& 31).toUInt32).toInt32) :: S))) : Go p l e R s m args below meth c Z own cl xs0 n0 kc ks Q xs h cells slots (mkF m pc L (.int y :: .int x :: S)) := Go.of_step K (fun s' K T locs X _ t k => by subst hq; exact XS.iushr (g := mkF m pc L (.int y :: .int x :: S)) X.here K.1 rfl (hb K.2.2.2.1 hd) rfl k) r
theorem Go.ladd (K : Cx0 bytes maxL ret mn p meth c) (hq : pc + 1 = q) {x y : Int64} (hd : decode bytes pc = .ok (.ladd, 1)) (r : Go p l e R s m args below meth c Z own cl xs0 n0 kc ks Q xs h cells slots (mkF m q L (.long (x + y) :: S))) : Go p l e R s m args below meth c Z own cl xs0 n0 kc ks Q xs h cells slots (mkF m pc L (.long y :: .long x :: S)) := Go.of_step K (fun s' K T locs X _ t k => by subst hq; exact XS.ladd (g := mkF m pc L (.long y :: .long x :: S)) X.here K.1 rfl (hb K.2.2.2.1 hd) rfl k) r
theorem Go.lsub (K : Cx0 bytes maxL ret mn p meth c) (hq : pc + 1 = q) {x y : Int64} (hd : decode bytes pc = .ok (.lsub, 1)) (r : Go p l e R s m args below meth c Z own cl xs0 n0 kc ks Q xs h cells slots (mkF m q L (.long (x - y) :: S))) : Go p l e R s m args below meth c Z own cl xs0 n0 kc ks Q xs h cells slots (mkF m pc L (.long y :: .long x :: S)) := Go.of_step K (fun s' K T locs X _ t k => by subst hq; exact XS.lsub (g := mkF m pc L (.long y :: .long x :: S)) X.here K.1 rfl (hb K.2.2.2.1 hd) rfl k) r
theorem Go.lmul (K : Cx0 bytes maxL ret mn p meth c) (hq : pc + 1 = q) {x y : Int64} (hd : decode bytes pc = .ok (.lmul, 1)) (r : Go p l e R s m args below meth c Z own cl xs0 n0 kc ks Q xs h cells slots (mkF m q L (.long (x * y) :: S))) : Go p l e R s m args below meth c Z own cl xs0 n0 kc ks Q xs h cells slots (mkF m pc L (.long y :: .long x :: S)) := Go.of_step K (fun s' K T locs X _ t k => by subst hq; exact XS.lmul (g := mkF m pc L (.long y :: .long x :: S)) X.here K.1 rfl (hb K.2.2.2.1 hd) rfl k) r
theorem Go.land (K : Cx0 bytes maxL ret mn p meth c) (hq : pc + 1 = q) {x y : Int64} (hd : decode bytes pc = .ok (.land, 1)) (r : Go p l e R s m args below meth c Z own cl xs0 n0 kc ks Q xs h cells slots (mkF m q L (.long (x &&& y) :: S))) : Go p l e R s m args below meth c Z own cl xs0 n0 kc ks Q xs h cells slots (mkF m pc L (.long y :: .long x :: S)) := Go.of_step K (fun s' K T locs X _ t k => by subst hq; exact XS.land (g := mkF m pc L (.long y :: .long x :: S)) X.here K.1 rfl (hb K.2.2.2.1 hd) rfl k) r
theorem Go.lor (K : Cx0 bytes maxL ret mn p meth c) (hq : pc + 1 = q) {x y : Int64} (hd : decode bytes pc = .ok (.lor, 1)) (r : Go p l e R s m args below meth c Z own cl xs0 n0 kc ks Q xs h cells slots (mkF m q L (.long (x ||| y) :: S))) : Go p l e R s m args below meth c Z own cl xs0 n0 kc ks Q xs h cells slots (mkF m pc L (.long y :: .long x :: S)) := Go.of_step K (fun s' K T locs X _ t k => by subst hq; exact XS.lor (g := mkF m pc L (.long y :: .long x :: S)) X.here K.1 rfl (hb K.2.2.2.1 hd) rfl k) r
theorem Go.lxor (K : Cx0 bytes maxL ret mn p meth c) (hq : pc + 1 = q) {x y : Int64} (hd : decode bytes pc = .ok (.lxor, 1)) (r : Go p l e R s m args below meth c Z own cl xs0 n0 kc ks Q xs h cells slots (mkF m q L (.long (x ^^^ y) :: S))) : Go p l e R s m args below meth c Z own cl xs0 n0 kc ks Q xs h cells slots (mkF m pc L (.long y :: .long x :: S)) := Go.of_step K (fun s' K T locs X _ t k => by subst hq; exact XS.lxor (g := mkF m pc L (.long y :: .long x :: S)) X.here K.1 rfl (hb K.2.2.2.1 hd) rfl k) r
theorem Go.lshl (K : Cx0 bytes maxL ret mn p meth c) (hq : pc + 1 = q) {x : Int64} {y : Int32} (hd : decode bytes pc = .ok (.lshl, 1)) (r : Go p l e R s m args below meth c Z own cl xs0 n0 kc ks Q xs h cells slots (mkF m q L (.long (x <<< (y &&& 0x3f).toInt64) :: S))) : Go p l e R s m args below meth c Z own cl xs0 n0 kc ks Q xs h cells slots (mkF m pc L (.int y :: .long x :: S)) := Go.of_step K (fun s' K T locs X _ t k => by subst hq; exact XS.lshl (g := mkF m pc L (.int y :: .long x :: S)) X.here K.1 rfl (hb K.2.2.2.1 hd) rfl k) r
theorem Go.lshr (K : Cx0 bytes maxL ret mn p meth c) (hq : pc + 1 = q) {x : Int64} {y : Int32} (hd : decode bytes pc = .ok (.lshr, 1)) (r : Go p l e R s m args below meth c Z own cl xs0 n0 kc ks Q xs h cells slots (mkF m q L (.long (x >>> (y &&& 0x3f).toInt64) :: S))) : Go p l e R s m args below meth c Z own cl xs0 n0 kc ks Q xs h cells slots (mkF m pc L (.int y :: .long x :: S)) := Go.of_step K (fun s' K T locs X _ t k => by subst hq; exact XS.lshr (g := mkF m pc L (.int y :: .long x :: S)) X.here K.1 rfl (hb K.2.2.2.1 hd) rfl k) r
theorem Go.lushr (K : Cx0 bytes maxL ret mn p meth c) (hq : pc + 1 = q) {x : Int64} {y : Int32} (hd : decode bytes pc = .ok (.lushr, 1)) (r : Go p l e R s m args below meth c Z own cl xs0 n0 kc ks Q xs h cells slots (mkF m q L (.long ((x.toUInt64 >>> (y &&& 0x3f).toInt64.toUInt64).toInt64) :: S))) : Go p l e R s m args below meth c Z own cl xs0 n0 kc ks Q xs h cells slots (mkF m pc L (.int y :: .long x :: S)) := Go.of_step K (fun s' K T locs X _ t k => by subst hq; exact XS.lushr (g := mkF m pc L (.int y :: .long x :: S)) X.here K.1 rfl (hb K.2.2.2.1 hd) rfl k) r
theorem Go.lcmp (K : Cx0 bytes maxL ret mn p meth c) (hq : pc + 1 = q) {x y : Int64} (hd : decode bytes pc = .ok (.lcmp, 1)) (r : Go p l e R s m args below meth c Z own cl xs0 n0 kc ks Q xs h cells slots (mkF m q L (.int (lcmpW x y) :: S))) : Go p l e R s m args below meth c Z own cl xs0 n0 kc ks Q xs h cells slots (mkF m pc L (.long y :: .long x :: S)) := Go.of_step K (fun s' K T locs X _ t k => by subst hq; exact XS.lcmp (g := mkF m pc L (.long y :: .long x :: S)) X.here K.1 rfl (hb K.2.2.2.1 hd) rfl k) r
theorem Go.ineg (K : Cx0 bytes maxL ret mn p meth c) (hq : pc + 1 = q) {x : Int32} (hd : decode bytes pc = .ok (.ineg, 1)) (r : Go p l e R s m args below meth c Z own cl xs0 n0 kc ks Q xs h cells slots (mkF m q L (.int (-x) :: S))) : Go p l e R s m args below meth c Z own cl xs0 n0 kc ks Q xs h cells slots (mkF m pc L (.int x :: S)) := Go.of_step K (fun s' K T locs X _ t k => by subst hq; exact XS.ineg (g := mkF m pc L (.int x :: S)) X.here K.1 rfl (hb K.2.2.2.1 hd) rfl k) r
theorem Go.i2l (K : Cx0 bytes maxL ret mn p meth c) (hq : pc + 1 = q) {x : Int32} (hd : decode bytes pc = .ok (.i2l, 1)) (r : Go p l e R s m args below meth c Z own cl xs0 n0 kc ks Q xs h cells slots (mkF m q L (.long x.toInt64 :: S))) : Go p l e R s m args below meth c Z own cl xs0 n0 kc ks Q xs h cells slots (mkF m pc L (.int x :: S)) := Go.of_step K (fun s' K T locs X _ t k => by subst hq; exact XS.i2l (g := mkF m pc L (.int x :: S)) X.here K.1 rfl (hb K.2.2.2.1 hd) rfl k) r
theorem Go.l2i (K : Cx0 bytes maxL ret mn p meth c) (hq : pc + 1 = q) {x : Int64} (hd : decode bytes pc = .ok (.l2i, 1)) (r : Go p l e R s m args below meth c Z own cl xs0 n0 kc ks Q xs h cells slots (mkF m q L (.int x.toInt32 :: S))) : Go p l e R s m args below meth c Z own cl xs0 n0 kc ks Q xs h cells slots (mkF m pc L (.long x :: S)) := Go.of_step K (fun s' K T locs X _ t k => by subst hq; exact XS.l2i (g := mkF m pc L (.long x :: S)) X.here K.1 rfl (hb K.2.2.2.1 hd) rfl k) r
theorem Go.i2b (K : Cx0 bytes maxL ret mn p meth c) (hq : pc + 1 = q) {x : Int32} (hd : decode bytes pc = .ok (.i2b, 1)) (r : Go p l e R s m args below meth c Z own cl xs0 n0 kc ks Q xs h cells slots (mkF m q L (.int x.toInt8.toInt32 :: S))) : Go p l e R s m args below meth c Z own cl xs0 n0 kc ks Q xs h cells slots (mkF m pc L (.int x :: S)) := Go.of_step K (fun s' K T locs X _ t k => by subst hq; exact XS.i2b (g := mkF m pc L (.int x :: S)) X.here K.1 rfl (hb K.2.2.2.1 hd) rfl k) r
theorem Go.i2s (K : Cx0 bytes maxL ret mn p meth c) (hq : pc + 1 = q) {x : Int32} (hd : decode bytes pc = .ok (.i2s, 1)) (r : Go p l e R s m args below meth c Z own cl xs0 n0 kc ks Q xs h cells slots (mkF m q L (.int x.toInt16.toInt32 :: S))) : Go p l e R s m args below meth c Z own cl xs0 n0 kc ks Q xs h cells slots (mkF m pc L (.int x :: S)) := Go.of_step K (fun s' K T locs X _ t k => by subst hq; exact XS.i2s (g := mkF m pc L (.int x :: S)) X.here K.1 rfl (hb K.2.2.2.1 hd) rfl k) r
theorem Go.i2c (K : Cx0 bytes maxL ret mn p meth c) (hq : pc + 1 = q) {x : Int32} (hd : decode bytes pc = .ok (.i2c, 1)) (r : Go p l e R s m args below meth c Z own cl xs0 n0 kc ks Q xs h cells slots (mkF m q L (.int x.toUInt32.toUInt16.toUInt32.toInt32 :: S))) : Go p l e R s m args below meth c Z own cl xs0 n0 kc ks Q xs h cells slots (mkF m pc L (.int x :: S)) := Go.of_step K (fun s' K T locs X _ t k => by subst hq; exact XS.i2c (g := mkF m pc L (.int x :: S)) X.here K.1 rfl (hb K.2.2.2.1 hd) rfl k) r
theorem Go.irem (K : Cx0 bytes maxL ret mn p meth c) (hq : pc + 1 = q) {x y : Int32} (hd : decode bytes pc = .ok (.irem, 1)) (hy : y ≠ 0) (r : Go p l e R s m args below meth c Z own cl xs0 n0 kc ks Q xs h cells slots (mkF m q L (.int (x % y) :: S))) : Go p l e R s m args below meth c Z own cl xs0 n0 kc ks Q xs h cells slots (mkF m pc L (.int y :: .int x :: S)) := Go.of_step K (fun s' K T locs X _ t k => by subst hq; exact iremM (g := mkF m pc L (.int y :: .int x :: S)) X K.1 rfl (hb K.2.2.2.1 hd) rfl hy k) r
theorem Go.idiv (K : Cx0 bytes maxL ret mn p meth c) (hq : pc + 1 = q) {x y : Int32} (hd : decode bytes pc = .ok (.idiv, 1)) (hy : y ≠ 0) (r : Go p l e R s m args below meth c Z own cl xs0 n0 kc ks Q xs h cells slots (mkF m q L (.int (x / y) :: S))) : Go p l e R s m args below meth c Z own cl xs0 n0 kc ks Q xs h cells slots (mkF m pc L (.int y :: .int x :: S)) := Go.of_step K (fun s' K T locs X _ t k => by subst hq; exact XS.idiv (g := mkF m pc L (.int y :: .int x :: S)) X.here K.1 rfl (hb K.2.2.2.1 hd) rfl hy k) r
theorem Go.dup (K : Cx0 bytes maxL ret mn p meth c) (hq : pc + 1 = q) {x : Value} (hd : decode bytes pc = .ok (.dup, 1)) (hc : x.category = 1) (r : Go p l e R s m args below meth c Z own cl xs0 n0 kc ks Q xs h cells slots (mkF m q L (x :: x :: S))) : Go p l e R s m args below meth c Z own cl xs0 n0 kc ks Q xs h cells slots (mkF m pc L (x :: S)) := Go.of_step K (fun s' K T locs X _ t k => by subst hq; exact XS.dup (g := mkF m pc L (x :: S)) X.here K.1 rfl (hb K.2.2.2.1 hd) rfl hc k) r
theorem Go.dupX1 (K : Cx0 bytes maxL ret mn p meth c) (hq : pc + 1 = q) {x y : Value} (hd : decode bytes pc = .ok (.dup_x1, 1)) (hc : x.category = 1) (hc' : y.category = 1) (r : Go p l e R s m args below meth c Z own cl xs0 n0 kc ks Q xs h cells slots (mkF m q L (x :: y :: x :: S))) : Go p l e R s m args below meth c Z own cl xs0 n0 kc ks Q xs h cells slots (mkF m pc L (x :: y :: S)) := Go.of_step K (fun s' K T locs X _ t k => by subst hq; exact XS.dupX1 (g := mkF m pc L (x :: y :: S)) X.here K.1 rfl (hb K.2.2.2.1 hd) rfl hc hc' k) r
theorem Go.pop (K : Cx0 bytes maxL ret mn p meth c) (hq : pc + 1 = q) {x : Value} (hd : decode bytes pc = .ok (.pop, 1)) (hc : x.category = 1) (r : Go p l e R s m args below meth c Z own cl xs0 n0 kc ks Q xs h cells slots (mkF m q L S)) : Go p l e R s m args below meth c Z own cl xs0 n0 kc ks Q xs h cells slots (mkF m pc L (x :: S)) := Go.of_step K (fun s' K T locs X _ t k => by subst hq; exact XS.pop (g := mkF m pc L (x :: S)) X.here K.1 rfl (hb K.2.2.2.1 hd) rfl hc k) r
theorem Go.istoreN (K : Cx0 bytes maxL ret mn p meth c) (hq : pc + 1 = q) {k : Fin 4} {x : Int32} {L' : Array Slot} (hd : decode bytes pc = .ok (.istore_n k, 1)) (hl : storeLocals L k.val (.int x) = some L') (r : Go p l e R s m args below meth c Z own cl xs0 n0 kc ks Q xs h cells slots (mkF m q L' S)) : Go p l e R s m args below meth c Z own cl xs0 n0 kc ks Q xs h cells slots (mkF m pc L (.int x :: S)) := Go.of_step K (fun s' K T locs X _ t k => by subst hq; exact XS.istoreN (g := mkF m pc L (.int x :: S)) X.here K.1 rfl (hb K.2.2.2.1 hd) rfl hl k) r
theorem Go.istore (K : Cx0 bytes maxL ret mn p meth c) (hq : pc + 2 = q) {k : Nat} {x : Int32} {L' : Array Slot} (hd : decode bytes pc = .ok (.istore k, 2)) (hl : storeLocals L k (.int x) = some L') (r : Go p l e R s m args below meth c Z own cl xs0 n0 kc ks Q xs h cells slots (mkF m q L' S)) : Go p l e R s m args below meth c Z own cl xs0 n0 kc ks Q xs h cells slots (mkF m pc L (.int x :: S)) := Go.of_step K (fun s' K T locs X _ t k => by subst hq; exact XS.istore (g := mkF m pc L (.int x :: S)) X.here K.1 rfl (hb K.2.2.2.1 hd) rfl hl k) r
theorem Go.lstoreN (K : Cx0 bytes maxL ret mn p meth c) (hq : pc + 1 = q) {k : Fin 4} {x : Int64} {L' : Array Slot} (hd : decode bytes pc = .ok (.lstore_n k, 1)) (hl : storeLocals L k.val (.long x) = some L') (r : Go p l e R s m args below meth c Z own cl xs0 n0 kc ks Q xs h cells slots (mkF m q L' S)) : Go p l e R s m args below meth c Z own cl xs0 n0 kc ks Q xs h cells slots (mkF m pc L (.long x :: S)) := Go.of_step K (fun s' K T locs X _ t k => by subst hq; exact XS.lstoreN (g := mkF m pc L (.long x :: S)) X.here K.1 rfl (hb K.2.2.2.1 hd) rfl hl k) r
theorem Go.lstore (K : Cx0 bytes maxL ret mn p meth c) (hq : pc + 2 = q) {k : Nat} {x : Int64} {L' : Array Slot} (hd : decode bytes pc = .ok (.lstore k, 2)) (hl : storeLocals L k (.long x) = some L') (r : Go p l e R s m args below meth c Z own cl xs0 n0 kc ks Q xs h cells slots (mkF m q L' S)) : Go p l e R s m args below meth c Z own cl xs0 n0 kc ks Q xs h cells slots (mkF m pc L (.long x :: S)) := Go.of_step K (fun s' K T locs X _ t k => by subst hq; exact XS.lstore (g := mkF m pc L (.long x :: S)) X.here K.1 rfl (hb K.2.2.2.1 hd) rfl hl k) r
theorem Go.astoreN (K : Cx0 bytes maxL ret mn p meth c) (hq : pc + 1 = q) {k : Fin 4} {x : Value} {L' : Array Slot} (hd : decode bytes pc = .ok (.astore_n k, 1)) (hv : x.isRef = true) (hl : storeLocals L k.val x = some L') (r : Go p l e R s m args below meth c Z own cl xs0 n0 kc ks Q xs h cells slots (mkF m q L' S)) : Go p l e R s m args below meth c Z own cl xs0 n0 kc ks Q xs h cells slots (mkF m pc L (x :: S)) := Go.of_step K (fun s' K T locs X _ t k => by subst hq; exact XS.astoreN (g := mkF m pc L (x :: S)) X.here K.1 rfl (hb K.2.2.2.1 hd) rfl hv hl k) r
theorem Go.astore (K : Cx0 bytes maxL ret mn p meth c) (hq : pc + 2 = q) {k : Nat} {x : Value} {L' : Array Slot} (hd : decode bytes pc = .ok (.astore k, 2)) (hv : x.isRef = true) (hl : storeLocals L k x = some L') (r : Go p l e R s m args below meth c Z own cl xs0 n0 kc ks Q xs h cells slots (mkF m q L' S)) : Go p l e R s m args below meth c Z own cl xs0 n0 kc ks Q xs h cells slots (mkF m pc L (x :: S)) := Go.of_step K (fun s' K T locs X _ t k => by subst hq; exact XS.astore (g := mkF m pc L (x :: S)) X.here K.1 rfl (hb K.2.2.2.1 hd) rfl hv hl k) r
theorem Go.iinc (K : Cx0 bytes maxL ret mn p meth c) (hq : pc + 3 = q) {k : Nat} {cst : Int} {x y : Int32} {L' : Array Slot} (hy : Int32.ofInt cst = y) (hd : decode bytes pc = .ok (.iinc k cst, 3)) (hl0 : L[k]? = some (.val (.int x))) (hl : storeLocals L k (.int (x + y)) = some L') (r : Go p l e R s m args below meth c Z own cl xs0 n0 kc ks Q xs h cells slots (mkF m q L' S)) : Go p l e R s m args below meth c Z own cl xs0 n0 kc ks Q xs h cells slots (mkF m pc L S) := Go.of_step K (fun s' K T locs X _ t k => by subst hq hy; exact XS.iinc (g := mkF m pc L S) X.here K.1 rfl (hb K.2.2.2.1 hd) hl0 hl k) r
theorem Go.goto (K : Cx0 bytes maxL ret mn p meth c) {o : Int} (ho : 0 ≤ (pc : Int) + o) (hq : ((pc : Int) + o).toNat = q) (hd : decode bytes pc = .ok (.goto o, 3)) (r : Go p l e R s m args below meth c Z own cl xs0 n0 kc ks Q xs h cells slots (mkF m q L S)) : Go p l e R s m args below meth c Z own cl xs0 n0 kc ks Q xs h cells slots (mkF m pc L S) := Go.of_step K (fun s' K T locs X _ t k => XS.goto (g := mkF m pc L S) X.here K.1 rfl (pc0 := pc) (pc' := q) rfl (hb K.2.2.2.1 hd) ho hq k) r
theorem Go.ifY (K : Cx0 bytes maxL ret mn p meth c) {o : Int} {cd : ClassFile.Cond} {x : Int32} (ho : 0 ≤ (pc : Int) + o) (hq : ((pc : Int) + o).toNat = q) (hd : decode bytes pc = .ok (.ifCond cd o, 3)) (hc : cdP cd x 0) (r : Go p l e R s m args below meth c Z own cl xs0 n0 kc ks Q xs h cells slots (mkF m q L S)) : Go p l e R s m args below meth c Z own cl xs0 n0 kc ks Q xs h cells slots (mkF m pc L (.int x :: S)) := Go.of_step K (fun s' K T locs X _ t k => XS.ifYes (g := mkF m pc L (.int x :: S)) X.here K.1 rfl (pc0 := pc) (pc' := q) rfl (hb K.2.2.2.1 hd) rfl ((if0 _ _).trans (cd_yes hc)) ho hq k) r
theorem Go.ifN (K : Cx0 bytes maxL ret mn p meth c) {o : Int} {cd : ClassFile.Cond} {x : Int32} (hq : pc + 3 = q) (hd : decode bytes pc = .ok (.ifCond cd o, 3)) (hc : cdN cd x 0) (r : Go p l e R s m args below meth c Z own cl xs0 n0 kc ks Q xs h cells slots (mkF m q L S)) : Go p l e R s m args below meth c Z own cl xs0 n0 kc ks Q xs h cells slots (mkF m pc L (.int x :: S)) := Go.of_step K (fun s' K T locs X _ t k => by subst hq; exact XS.ifNo (g := mkF m pc L (.int x :: S)) X.here K.1 rfl (hb K.2.2.2.1 hd) rfl ((if0 _ _).trans (cd_no hc)) k) r
theorem Go.icmpY (K : Cx0 bytes maxL ret mn p meth c) {o : Int} {cd : ClassFile.Cond} {x y : Int32} (ho : 0 ≤ (pc : Int) + o) (hq : ((pc : Int) + o).toNat = q) (hd : decode bytes pc = .ok (.if_icmp cd o, 3)) (hc : cdP cd x y) (r : Go p l e R s m args below meth c Z own cl xs0 n0 kc ks Q xs h cells slots (mkF m q L S)) : Go p l e R s m args below meth c Z own cl xs0 n0 kc ks Q xs h cells slots (mkF m pc L (.int y :: .int x :: S)) := Go.of_step K (fun s' K T locs X _ t k => XS.icmpYes (g := mkF m pc L (.int y :: .int x :: S)) X.here K.1 rfl (pc0 := pc) (pc' := q) rfl (hb K.2.2.2.1 hd) rfl (cd_yes hc) ho hq k) r
theorem Go.icmpN (K : Cx0 bytes maxL ret mn p meth c) {o : Int} {cd : ClassFile.Cond} {x y : Int32} (hq : pc + 3 = q) (hd : decode bytes pc = .ok (.if_icmp cd o, 3)) (hc : cdN cd x y) (r : Go p l e R s m args below meth c Z own cl xs0 n0 kc ks Q xs h cells slots (mkF m q L S)) : Go p l e R s m args below meth c Z own cl xs0 n0 kc ks Q xs h cells slots (mkF m pc L (.int y :: .int x :: S)) := Go.of_step K (fun s' K T locs X _ t k => by subst hq; exact XS.icmpNo (g := mkF m pc L (.int y :: .int x :: S)) X.here K.1 rfl (hb K.2.2.2.1 hd) rfl (cd_no hc) k) r
theorem Go.ifc (K : Cx0 bytes maxL ret mn p meth c) {o : Int} {cd : ClassFile.Cond} {x : Int32} {q' : Nat} (ho : 0 ≤ (pc : Int) + o) (hq : ((pc : Int) + o).toNat = q) (hq' : pc + 3 = q') (hd : decode bytes pc = .ok (.ifCond cd o, 3)) (r : cdP cd x 0 → Go p l e R s m args below meth c Z own cl xs0 n0 kc ks Q xs h cells slots (mkF m q L S)) (r' : cdN cd x 0 → Go p l e R s m args below meth c Z own cl xs0 n0 kc ks Q xs h cells slots (mkF m q' L S)) : Go p l e R s m args below meth c Z own cl xs0 n0 kc ks Q xs h cells slots (mkF m pc L (.int x :: S)) :=
  (cd_em cd x 0).elim (fun hc => Go.ifY K ho hq hd hc (r hc)) (fun hc => Go.ifN K hq' hd hc (r' hc))
theorem Go.icmp (K : Cx0 bytes maxL ret mn p meth c) {o : Int} {cd : ClassFile.Cond} {x y : Int32} {q' : Nat} (ho : 0 ≤ (pc : Int) + o) (hq : ((pc : Int) + o).toNat = q) (hq' : pc + 3 = q') (hd : decode bytes pc = .ok (.if_icmp cd o, 3)) (r : cdP cd x y → Go p l e R s m args below meth c Z own cl xs0 n0 kc ks Q xs h cells slots (mkF m q L S)) (r' : cdN cd x y → Go p l e R s m args below meth c Z own cl xs0 n0 kc ks Q xs h cells slots (mkF m q' L S)) : Go p l e R s m args below meth c Z own cl xs0 n0 kc ks Q xs h cells slots (mkF m pc L (.int y :: .int x :: S)) :=
  (cd_em cd x y).elim (fun hc => Go.icmpY K ho hq hd hc (r hc)) (fun hc => Go.icmpN K hq' hd hc (r' hc))
theorem Go.ifnullY (K : Cx0 bytes maxL ret mn p meth c) {o : Int} (ho : 0 ≤ (pc : Int) + o) (hq : ((pc : Int) + o).toNat = q) (hd : decode bytes pc = .ok (.ifnull o, 3)) (r : Go p l e R s m args below meth c Z own cl xs0 n0 kc ks Q xs h cells slots (mkF m q L S)) : Go p l e R s m args below meth c Z own cl xs0 n0 kc ks Q xs h cells slots (mkF m pc L (.null :: S)) := Go.of_step K (fun s' K T locs X _ t k => XS.ifnullYes (g := mkF m pc L (.null :: S)) X.here K.1 rfl (pc0 := pc) (pc' := q) rfl (hb K.2.2.2.1 hd) rfl ho hq k) r
theorem Go.ifnullN (K : Cx0 bytes maxL ret mn p meth c) {o : Int} {b : Addr} (hq : pc + 3 = q) (hd : decode bytes pc = .ok (.ifnull o, 3)) (r : Go p l e R s m args below meth c Z own cl xs0 n0 kc ks Q xs h cells slots (mkF m q L S)) : Go p l e R s m args below meth c Z own cl xs0 n0 kc ks Q xs h cells slots (mkF m pc L (.ref b :: S)) := Go.of_step K (fun s' K T locs X _ t k => by subst hq; exact XS.ifnullNo (g := mkF m pc L (.ref b :: S)) X.here K.1 rfl (hb K.2.2.2.1 hd) rfl k) r
theorem Go.ifnonnullY (K : Cx0 bytes maxL ret mn p meth c) {o : Int} {b : Addr} (ho : 0 ≤ (pc : Int) + o) (hq : ((pc : Int) + o).toNat = q) (hd : decode bytes pc = .ok (.ifnonnull o, 3)) (r : Go p l e R s m args below meth c Z own cl xs0 n0 kc ks Q xs h cells slots (mkF m q L S)) : Go p l e R s m args below meth c Z own cl xs0 n0 kc ks Q xs h cells slots (mkF m pc L (.ref b :: S)) := Go.of_step K (fun s' K T locs X _ t k => XS.ifnonnullYes (g := mkF m pc L (.ref b :: S)) X.here K.1 rfl (pc0 := pc) (pc' := q) rfl (hb K.2.2.2.1 hd) rfl ho hq k) r
theorem Go.ifnonnullN (K : Cx0 bytes maxL ret mn p meth c) {o : Int} (hq : pc + 3 = q) (hd : decode bytes pc = .ok (.ifnonnull o, 3)) (r : Go p l e R s m args below meth c Z own cl xs0 n0 kc ks Q xs h cells slots (mkF m q L S)) : Go p l e R s m args below meth c Z own cl xs0 n0 kc ks Q xs h cells slots (mkF m pc L (.null :: S)) := Go.of_step K (fun s' K T locs X _ t k => by subst hq; exact XS.ifnonnullNo (g := mkF m pc L (.null :: S)) X.here K.1 rfl (hb K.2.2.2.1 hd) rfl k) r
theorem Go.acmp (K : Cx0 bytes maxL ret mn p meth c) {o : Int} {cd : ACond} {x y : Value} (h1 : x.isRef = true) (h2 : y.isRef = true) {same : Bool} (hs : decide (x = y) = same) (ho : 0 ≤ (pc : Int) + o) (hq : q = if acV cd same = true then ((pc : Int) + o).toNat else pc + 3) (hd : decode bytes pc = .ok (.if_acmp cd o, 3)) (r : Go p l e R s m args below meth c Z own cl xs0 n0 kc ks Q xs h cells slots (mkF m q L S)) : Go p l e R s m args below meth c Z own cl xs0 n0 kc ks Q xs h cells slots (mkF m pc L (y :: x :: S)) := Go.of_step K (fun s' K T locs X _ t k => Jvm.RoadKit.acmp (g := mkF m pc L (y :: x :: S)) X K.1 rfl h1 h2 (pc0 := pc) (pc' := q) rfl (hb K.2.2.2.1 hd) rfl hs ho hq k) r
theorem Go.getF (K : Cx0 bytes maxL ret mn p meth c) (hq : pc + 3 = q) {R0 O n d : String} {i : Nat} (w : (Cond.fieldLink own i R0 n d).before a0 Z = true) (via : Via Z R0 O n d) {a : Addr} {v : Value} (F : Fld Z h a O n d v) (hd : decode bytes pc = .ok (.getfield i, 3)) (r : Go p l e R s m args below meth c Z own cl xs0 n0 kc ks Q xs h cells slots (mkF m q L (v :: S))) : Go p l e R s m args below meth c Z own cl xs0 n0 kc ks Q xs h cells slots (mkF m pc L (.ref a :: S)) :=
  Go.of_warm K (fun s' K T locs X eT => by subst hq; exact Jvm.RoadKit.getF X K.1 K.2.1 K.2.2.1 (host := "") (Or.inl w) via eT F (g := mkF m pc L (.ref a :: S)) rfl rfl (hb K.2.2.2.1 hd)) r
theorem Go.getS (K : Cx0 bytes maxL ret mn p meth c) (hq : pc + 3 = q) {R0 O n d : String} {i : Nat} (w : (Cond.fieldLink own i R0 n d).before a0 Z = true) (via : Via Z R0 O n d) {v : Value} (F : Sta Z h O n d v) (hd : decode bytes pc = .ok (.getstatic i, 3)) (r : Go p l e R s m args below meth c Z own cl xs0 n0 kc ks Q xs h cells slots (mkF m q L (v :: S))) : Go p l e R s m args below meth c Z own cl xs0 n0 kc ks Q xs h cells slots (mkF m pc L S) :=
  Go.of_warm K (fun s' K T locs X eT => by subst hq; exact Jvm.RoadKit.getS (host := "") X K.1 K.2.1 K.2.2.1 w via eT F (g := mkF m pc L S) rfl (hb K.2.2.2.1 hd)) r
theorem Go.castY (K : Cx0 bytes maxL ret mn p meth c) (hq : pc + 3 = q) {C : String} {i : Nat} (w : (Cond.classLink own i C).before a0 Z = true) {a : Addr} (F : Ins Z h a C true) (hd : decode bytes pc = .ok (.checkcast i, 3)) (r : Go p l e R s m args below meth c Z own cl xs0 n0 kc ks Q xs h cells slots (mkF m q L (.ref a :: S))) : Go p l e R s m args below meth c Z own cl xs0 n0 kc ks Q xs h cells slots (mkF m pc L (.ref a :: S)) :=
  Go.of_warm K (fun s' K T locs X eT => by subst hq; exact Jvm.RoadKit.castY X K.1 K.2.1 K.2.2.1 w eT F (g := mkF m pc L (.ref a :: S)) rfl rfl (hb K.2.2.2.1 hd)) r
theorem Go.instY (K : Cx0 bytes maxL ret mn p meth c) (hq : pc + 3 = q) {C : String} {i : Nat} (w : (Cond.classLink own i C).before a0 Z = true) {a : Addr} (F : Ins Z h a C true) (hd : decode bytes pc = .ok (.instanceof i, 3)) (r : Go p l e R s m args below meth c Z own cl xs0 n0 kc ks Q xs h cells slots (mkF m q L (.int 1 :: S))) : Go p l e R s m args below meth c Z own cl xs0 n0 kc ks Q xs h cells slots (mkF m pc L (.ref a :: S)) :=
  Go.of_warm K (fun s' K T locs X eT => by subst hq; exact Jvm.RoadKit.instY X K.1 K.2.1 K.2.2.1 w eT F (g := mkF m pc L (.ref a :: S)) rfl rfl (hb K.2.2.2.1 hd)) r
theorem Go.instNo (K : Cx0 bytes maxL ret mn p meth c) (hq : pc + 3 = q) {C D : String} {i : Nat} (w : (Cond.classLink own i D).before a0 Z = true) {a : Addr} (E : Exa Z h a C) (F : ∃ c t, Z.vm.findClass C = some c ∧ Z.vm.findClass D = some t ∧ Z.vm.assignable c t = false) (hd : decode bytes pc = .ok (.instanceof i, 3)) (r : Go p l e R s m args below meth c Z own cl xs0 n0 kc ks Q xs h cells slots (mkF m q L (.int 0 :: S))) : Go p l e R s m args below meth c Z own cl xs0 n0 kc ks Q xs h cells slots (mkF m pc L (.ref a :: S)) :=
  Go.of_warm K (fun s' K T locs X eT => by subst hq; exact Jvm.RoadKit.instNo X K.1 K.2.1 K.2.2.1 w eT E F (g := mkF m pc L (.ref a :: S)) rfl rfl (hb K.2.2.2.1 hd)) r
theorem Go.instNull (K : Cx0 bytes maxL ret mn p meth c) (hq : pc + 3 = q) {i : Nat} (hd : decode bytes pc = .ok (.instanceof i, 3)) (r : Go p l e R s m args below meth c Z own cl xs0 n0 kc ks Q xs h cells slots (mkF m q L (.int 0 :: S))) : Go p l e R s m args below meth c Z own cl xs0 n0 kc ks Q xs h cells slots (mkF m pc L (.null :: S)) :=
  Go.of_step K (fun s' K T locs X _ t k => by subst hq; exact X.instanceofNull K.1 (g := mkF m pc L (.null :: S)) rfl rfl (hb K.2.2.2.1 hd) _ k) r
theorem Go.castNull (K : Cx0 bytes maxL ret mn p meth c) (hq : pc + 3 = q) {i : Nat} (hd : decode bytes pc = .ok (.checkcast i, 3)) (r : Go p l e R s m args below meth c Z own cl xs0 n0 kc ks Q xs h cells slots (mkF m q L (.null :: S))) : Go p l e R s m args below meth c Z own cl xs0 n0 kc ks Q xs h cells slots (mkF m pc L (.null :: S)) :=
  Go.of_step K (fun s' K T locs X _ t k => by subst hq; exact X.checkcastNull K.1 (g := mkF m pc L (.null :: S)) rfl rfl (hb K.2.2.2.1 hd) _ k) r
theorem Go.caload (K : Cx0 bytes maxL ret mn p meth c) (hq : pc + 1 = q) {a : Addr} {k : ClassId} {z j : Int32} {vs : List Value} {dv v : Value} (A : Arv Z h a k .char z vs dv) (hd : decode bytes pc = .ok (.caload, 1)) (hj : ¬ j < 0 ∧ j < z) (hv : vs.getD j.toNatClampNeg dv = v) (r : Go p l e R s m args below meth c Z own cl xs0 n0 kc ks Q xs h cells slots (mkF m q L (v :: S))) : Go p l e R s m args below meth c Z own cl xs0 n0 kc ks Q xs h cells slots (mkF m pc L (.int j :: .ref a :: S)) :=
  Go.of_step K (fun s' K T locs X eT t kk => by
    subst hq
    obtain ⟨cl, A1, A2, A3, A4, A5, A6⟩ := A
    exact X.caload K.1 (by rw [eT]; exact A1.1) (State.isArrayOf_alike K.2.1.alike A1.2.1) A1.2.2 (inb_of A3 hj) (A5.at (inb_of A3 hj) hv) (g := mkF m pc L (.int j :: .ref a :: S)) rfl rfl (hb K.2.2.2.1 hd) _ kk) r
theorem Go.baload (K : Cx0 bytes maxL ret mn p meth c) (hq : pc + 1 = q) {a : Addr} {k : ClassId} {z j : Int32} {vs : List Value} {dv v : Value} (A : Arv Z h a k .byte z vs dv) (hd : decode bytes pc = .ok (.baload, 1)) (hj : ¬ j < 0 ∧ j < z) (hv : vs.getD j.toNatClampNeg dv = v) (r : Go p l e R s m args below meth c Z own cl xs0 n0 kc ks Q xs h cells slots (mkF m q L (v :: S))) : Go p l e R s m args below meth c Z own cl xs0 n0 kc ks Q xs h cells slots (mkF m pc L (.int j :: .ref a :: S)) :=
  Go.of_step K (fun s' K T locs X eT t kk => by
    subst hq
    obtain ⟨cl, A1, A2, A3, A4, A5, A6⟩ := A
    exact X.baloadBytes K.1 (by rw [eT]; exact A1.1) (State.isArrayOf_alike K.2.1.alike A1.2.1) A1.2.2 (inb_of A3 hj) (A5.at (inb_of A3 hj) hv) (g := mkF m pc L (.int j :: .ref a :: S)) rfl rfl (hb K.2.2.2.1 hd) _ kk) r
theorem Go.aaload (K : Cx0 bytes maxL ret mn p meth c) (hq : pc + 1 = q) {a : Addr} {k : ClassId} {ty : FieldType} {z j : Int32} {vs : List Value} {dv v : Value} (A : Arv Z h a k ty z vs dv) (hty : ty.isReference = true) (hd : decode bytes pc = .ok (.aaload, 1)) (hj : ¬ j < 0 ∧ j < z) (hv : vs.getD j.toNatClampNeg dv = v) (r : Go p l e R s m args below meth c Z own cl xs0 n0 kc ks Q xs h cells slots (mkF m q L (v :: S))) : Go p l e R s m args below meth c Z own cl xs0 n0 kc ks Q xs h cells slots (mkF m pc L (.int j :: .ref a :: S)) :=
  Go.of_step K (fun s' K T locs X eT t kk => by
    subst hq
    obtain ⟨cl, A1, A2, A3, A4, A5, A6⟩ := A
    exact X.aaload K.1 (by rw [eT]; exact A1.1) (State.isArrayOf_alike K.2.1.alike A1.2.1) hty A1.2.2 (inb_of A3 hj) (A5.at (inb_of A3 hj) hv) (g := mkF m pc L (.int j :: .ref a :: S)) rfl rfl (hb K.2.2.2.1 hd) _ kk) r
theorem Go.alen (K : Cx0 bytes maxL ret mn p meth c) (hq : pc + 1 = q) {a : Addr} {k : ClassId} {ty : FieldType} {z : Int32} {vs : List Value} {dv : Value} (A : Arv Z h a k ty z vs dv) (hd : decode bytes pc = .ok (.arraylength, 1)) (r : Go p l e R s m args below meth c Z own cl xs0 n0 kc ks Q xs h cells slots (mkF m q L (.int z :: S))) : Go p l e R s m args below meth c Z own cl xs0 n0 kc ks Q xs h cells slots (mkF m pc L (.ref a :: S)) :=
  Go.of_step K (fun s' K T locs X eT t kk => by
    subst hq
    obtain ⟨cl, A1, A2, A3, A4, A5, A6⟩ := A
    refine X.arraylength K.1 (by rw [eT]; exact A1.1) (State.isArrayOf_alike K.2.1.alike A1.2.1) (g := mkF m pc L (.ref a :: S)) rfl rfl (hb K.2.2.2.1 hd) _ ?_
    rw [len_of A3 A4]; exact kk) r
theorem Go.initO (K : Cx0 bytes maxL ret mn p meth c) (hq : pc + 3 = q) {i : Nat} (w1 : (Cond.methodLink own i Lib.objectInit).before a0 Z = true) (w2 : (Cond.instanceMethod Lib.objectInit).before a0 Z = true) (w3 : (Cond.code Lib.objectInit ⟨#[0xb1]⟩ 1 none).before a0 Z = true) {a : Addr} (hsz : L.size = maxL) (hd : decode bytes pc = .ok (.invokespecial i, 3)) (hf : 1 ≤ R.frames) {W : Nat} (hW : (S.map fun v => v.category).sum ≤ W) (hl : W + 12 ≤ R.locals)
    (r : Go p l e R s m args below meth c Z own cl xs0 n0 kc ks Q xs h cells slots (mkF m q L S)) : Go p l e R s m args below meth c Z own cl xs0 n0 kc ks Q xs h cells slots (mkF m pc L (.ref a :: S)) :=
  Go.of_warm K (fun s' K T locs X eT => by subst hq; exact Jvm.RoadKit.initO X K.1 K.2.1 K.2.2.1 w1 w2 w3 eT (g := mkF m pc L (.ref a :: S)) rfl (hsz.trans K.2.2.2.2.1.symm) rfl (hb K.2.2.2.1 hd) hf (W := W) (by show 2 * 0 + _ ≤ _; omega) hl) r
/-! ends -/
theorem Go.end_ {f : JFrame} (K : Cx0 bytes maxL ret mn p meth c) {v : Option Value} (hv : ret = none → v = none) (hk : cells ≤ kc) (hs : slots ≤ ks) (hx : ∀ x ∈ xs0, x ∈ xs) (hQ : Q v h)
    (st : ∀ s', Cx Z own bytes maxL ret mn p s' m meth c → ∀ T locs, Stand p l e R s' m args below meth c T locs cells slots → ∀ fs, (∀ (f : JFrame) (acts : List Action), f.method = m → f.locked = none → f.entered = [] → (doReturn e (T.setTop f) acts v).1 = T.setFrames fs) → Steps p.tables e below (T.setTop f) (T.setFrames fs)) : Go p l e R s m args below meth c Z own cl xs0 n0 kc ks Q xs h cells slots f := fun T locs vm0 k0 X hS hkk hZ ho eT N H => by
  obtain ⟨fs, hr, hrun, hended, e1, e2, e3, e4⟩ := X.leaveW hS (by rw [eT]; exact hkk) (v := v) (fun q => hv (K.2.2.2.1.symm.trans q)) K.2.2.2.2.1
  exact ⟨_, _, st (s.setVm vm0) (K.at hZ ho) T locs X fs hr, hrun, hended, v, locs, rfl, ⟨by show Q v T.heap; rw [eT]; exact hQ, by show Lits Z cl xs0 T.vm T.heap; rw [eT]; exact (H.step (s := s.setVm vm0) rfl X.warmed.wide (Or.inl X.warmed.interned_eq)).sub hx, N⟩, e1, e2, e3, e4.mono hk hs⟩
theorem Go.retV (K : Cx0 bytes maxL none mn p meth c) (hd : decode bytes pc = .ok (.return_, 1)) (hk : cells ≤ kc) (hs : slots ≤ ks) (hx : ∀ x ∈ xs0, x ∈ xs) (hQ : Q none h) : Go p l e R s m args below meth c Z own cl xs0 n0 kc ks Q xs h cells slots (mkF m pc L []) :=
  Go.end_ K (fun _ => rfl) hk hs hx hQ fun s' K T locs X fs hr => X.returnOut K.1 K.2.2.2.2.2.1 (hb K.2.2.2.1 hd) hr
theorem Go.retN {t : FieldType} {z : Int32} (K : Cx0 bytes maxL (some t) mn p meth c) (ht : t = .boolean ∨ t = .byte ∨ t = .char ∨ t = .short) (hd : decode bytes pc = .ok (.ireturn, 1)) (hk : cells ≤ kc) (hs : slots ≤ ks) (hx : ∀ x ∈ xs0, x ∈ xs) (hQ : Q (some (.int (nar t z))) h) : Go p l e R s m args below meth c Z own cl xs0 n0 kc ks Q xs h cells slots (mkF m pc L (.int z :: S)) :=
  Go.end_ K (fun q => by cases q) hk hs hx hQ fun s' K T locs X fs hr => Jvm.RoadKit.retN X K.1 K.2.2.2.2.2.1 ht (hb K.2.2.2.1 hd) hr
theorem Go.retI {z : Int32} (K : Cx0 bytes maxL (some .int) mn p meth c) (hd : decode bytes pc = .ok (.ireturn, 1)) (hk : cells ≤ kc) (hs : slots ≤ ks) (hx : ∀ x ∈ xs0, x ∈ xs) (hQ : Q (some (.int z)) h) : Go p l e R s m args below meth c Z own cl xs0 n0 kc ks Q xs h cells slots (mkF m pc L [.int z]) :=
  Go.end_ K (fun q => by cases q) hk hs hx hQ fun s' K T locs X fs hr => X.ireturnOut K.1 K.2.2.2.2.2.1 rfl (Or.inl rfl) (hb K.2.2.2.1 hd) hr
theorem Go.retA {t : FieldType} {w : Value} (K : Cx0 bytes maxL (some t) mn p meth c) (ht : t.isReference = true) (hw : w.isRef = true) (hd : decode bytes pc = .ok (.areturn, 1)) (hk : cells ≤ kc) (hs : slots ≤ ks) (hx : ∀ x ∈ xs0, x ∈ xs) (hQ : Q (some w) h) : Go p l e R s m args below meth c Z own cl xs0 n0 kc ks Q xs h cells slots (mkF m pc L [w]) :=
  Go.end_ K (fun q => by cases q) hk hs hx hQ fun s' K T locs X fs hr => X.areturnOut K.1 hw K.2.2.2.2.2.1 ht (hb K.2.2.2.1 hd) hr
theorem Go.retJ {z : Int64} (K : Cx0 bytes maxL (some .long) mn p meth c) (hd : decode bytes pc = .ok (.lreturn, 1)) (hk : cells ≤ kc) (hs : slots ≤ ks) (hx : ∀ x ∈ xs0, x ∈ xs) (hQ : Q (some (.long z)) h) : Go p l e R s m args below meth c Z own cl xs0 n0 kc ks Q xs h cells slots (mkF m pc L [.long z]) :=
  Go.end_ K (fun q => by cases q) hk hs hx hQ fun s' K T locs X fs hr => X.lreturnOut K.1 K.2.2.2.2.2.1 (hb K.2.2.2.1 hd) hr
/-! the heap -/
theorem Go.putF (K : Cx0 bytes maxL ret mn p meth c) (hq : pc + 3 = q) {R0 O n d C : String} {i kk : Nat} {ty : FieldType} (w : (Cond.fieldLink own i R0 n d).before a0 Z = true) (via : Via Z R0 O n d) {a : Addr} {v old : Value} (F : Fld Z h a O n d old) (E : Exa Z h a C) (Ly : (Cond.lays C O n d).before a0 Z = true ∨ ((Cond.laysFinal C O n d).before a0 Z = true ∧ own = O ∧ mn = "<init>")) (wi : (Cond.instantiable C kk).before a0 Z = true)
    (hty : parseFieldDescriptor d = some ty) (hn : narrow ty v = v) (hf : fits ty v = true) (hd : decode bytes pc = .ok (.putfield i, 3)) (ha : n0 ≤ a) (hax : a ∈ xs) (r : ∀ h', Wr h h' a (Jvm.RoadKit.slotOf Z O n d) v → Fld Z h' a O n d v → Exa Z h' a C → Go p l e R s m args below meth c Z own cl xs0 n0 kc ks Q xs h' cells slots (mkF m q L S)) : Go p l e R s m args below meth c Z own cl xs0 n0 kc ks Q xs h cells slots (mkF m pc L (v :: .ref a :: S)) :=
  Go.of_heap (cells' := cells) (slots' := slots) K fun s' K T locs X eT N => by
    subst hq
    obtain ⟨T', h', X', eT', W, st⟩ := Jvm.RoadKit.putF X K.1 K.2.1 K.2.2.1 (host := "") (Or.inl w) via eT F E (Ly.imp id fun z => ⟨z.1, z.2.1, K.2.2.2.2.2.2.2.trans z.2.2⟩) wi hty hn hf (g := mkF m pc L (v :: .ref a :: S)) rfl rfl (hb K.2.2.2.1 hd)
    exact ⟨T', h', _, _, xs, X', eT', Nat.le_of_eq W.size.symm, Fr.snoc X' N ha, fun vm H => H.wr W hax, st, r h' W (F.same W) (E.wr W)⟩
theorem Go.putFN (K : Cx0 bytes maxL ret mn p meth c) (hq : pc + 3 = q) {R0 O n d C : String} {i kk : Nat} {ty : FieldType} (w : (Cond.fieldLink own i R0 n d).before a0 Z = true) (via : Via Z R0 O n d) {a : Addr} {v v' old : Value} (F : Fld Z h a O n d old) (E : Exa Z h a C) (Ly : (Cond.lays C O n d).before a0 Z = true ∨ ((Cond.laysFinal C O n d).before a0 Z = true ∧ own = O ∧ mn = "<init>")) (wi : (Cond.instantiable C kk).before a0 Z = true)
    (hty : parseFieldDescriptor d = some ty) (hn : narrow ty v = v') (hf : fits ty v' = true) (hd : decode bytes pc = .ok (.putfield i, 3)) (ha : n0 ≤ a) (hax : a ∈ xs) (r : ∀ h', Wr h h' a (Jvm.RoadKit.slotOf Z O n d) v' → Fld Z h' a O n d v' → Exa Z h' a C → Go p l e R s m args below meth c Z own cl xs0 n0 kc ks Q xs h' cells slots (mkF m q L S)) : Go p l e R s m args below meth c Z own cl xs0 n0 kc ks Q xs h cells slots (mkF m pc L (v :: .ref a :: S)) :=
  Go.of_heap (cells' := cells) (slots' := slots) K fun s' K T locs X eT N => by
    subst hq
    obtain ⟨T', h', X', eT', W, st⟩ := Jvm.RoadKit.putFN X K.1 K.2.1 K.2.2.1 w via eT F E (Ly.imp id fun z => ⟨z.1, z.2.1, K.2.2.2.2.2.2.2.trans z.2.2⟩) wi hty hn hf (g := mkF m pc L (v :: .ref a :: S)) rfl rfl (hb K.2.2.2.1 hd)
    exact ⟨T', h', _, _, xs, X', eT', Nat.le_of_eq W.size.symm, Fr.snoc X' N ha, fun vm H => H.wr W hax, st, r h' W (F.same W) (E.wr W)⟩
theorem Go.new (K : Cx0 bytes maxL ret mn p meth c) (hq : pc + 3 = q) {C : String} {i k : Nat} {cells' slots' : Nat} (w : (Cond.classLink own i C).before a0 Z = true) (wi : (Cond.instantiable C k).before a0 Z = true) (wz : (Cond.initialized C).before a0 Z = true) (hd : decode bytes pc = .ok (.new i, 3)) (hc : cells + 1 = cells') (hs : slots + k = slots') (hc' : cells' ≤ R.cells) (hs' : slots' ≤ R.slots)
    (r : ∀ h' a, a = h.size → Ext h h' → Exa Z h' a C → (∀ {O nm d : String} {ty : FieldType}, Laid Z a0 C O nm d → parseFieldDescriptor d = some ty → Fld Z h' a O nm d (defaultValue ty)) → Go p l e R s m args below meth c Z own cl xs0 n0 kc ks Q (a :: xs) h' cells' slots' (mkF m q L (.ref a :: S))) : Go p l e R s m args below meth c Z own cl xs0 n0 kc ks Q xs h cells slots (mkF m pc L S) :=
  Go.of_heap (cells' := cells') (slots' := slots') K fun s' K T locs X eT N => by
    subst hq hc hs
    obtain ⟨T', h', X', eT', E, A, D, -, st⟩ := newO X K.1 K.2.1 K.2.2.1 w wi wz eT (g := mkF m pc L S) rfl (hb K.2.2.2.1 hd) hc' hs'
    exact ⟨T', h', _, _, h.size :: xs, X', eT', E.1, N, fun vm H => H.cons (Nat.le_refl _) E A.lt, st, r h' _ rfl E A D⟩
theorem Go.newarr (K : Cx0 bytes maxL ret mn p meth c) (hq : pc + 2 = q) {aty : ArrayType} {z : Int32} {cap cells' slots' : Nat} (w : (Cond.arrayClass (newarray.typeOf aty)).before a0 Z = true) (hd : decode bytes pc = .ok (.newarray aty, 2)) (hz : ¬ z < 0) (hcap : z.toNatClampNeg ≤ cap) (hb8 : cap * 8 ≤ 536870912) (hc : cells + 1 = cells') (hs : slots + cap = slots') (hc' : cells' ≤ R.cells) (hs' : slots' ≤ R.slots)
    (r : ∀ h' a k, a = h.size → Ext h h' → Arv Z h' a k (newarray.typeOf aty) z (List.replicate z.toNatClampNeg (defaultValue (newarray.typeOf aty))) (defaultValue (newarray.typeOf aty)) → Go p l e R s m args below meth c Z own cl xs0 n0 kc ks Q (a :: xs) h' cells' slots' (mkF m q L (.ref a :: S))) : Go p l e R s m args below meth c Z own cl xs0 n0 kc ks Q xs h cells slots (mkF m pc L (.int z :: S)) :=
  Go.of_heap (cells' := cells') (slots' := slots') K fun s' K T locs X eT N => by
    subst hq hc hs
    obtain ⟨T', h', cA, X', eT', E, A, st⟩ := newP X K.1 K.2.1 w eT (g := mkF m pc L (.int z :: S)) rfl (hb K.2.2.2.1 hd) rfl hz hcap hb8 hc' hs'
    exact ⟨T', h', _, _, h.size :: xs, X', eT', E.1, N, fun vm H => H.cons (Nat.le_refl _) E A.lt, st, r h' _ cA rfl E ((Arv.new A hz).pad fun i => by simpa using pad_rep [] (defaultValue (newarray.typeOf aty)) z.toNatClampNeg i)⟩
theorem Go.castore (K : Cx0 bytes maxL ret mn p meth c) (hq : pc + 1 = q) {a : Addr} {k : ClassId} {z j x : Int32} {vs : List Value} {dv : Value} (A : Arv Z h a k .char z vs dv) {i : Nat} (hd : decode bytes pc = .ok (.castore, 1)) (hj : ¬ j < 0 ∧ j < z) (hi : j.toNatClampNeg = i) (hl : i < vs.length) (ha : n0 ≤ a) (hax : a ∈ xs)
    (r : ∀ h', Wr h h' a i (.int (nar .char x)) → Arv Z h' a k .char z (vs.set i (.int (nar .char x))) dv → Go p l e R s m args below meth c Z own cl xs0 n0 kc ks Q xs h' cells slots (mkF m q L S)) : Go p l e R s m args below meth c Z own cl xs0 n0 kc ks Q xs h cells slots (mkF m pc L (.int x :: .int j :: .ref a :: S)) :=
  Go.of_heap (cells' := cells) (slots' := slots) K fun s' K T locs X eT N => by
    subst hq
    obtain ⟨ce, A1, A2, A3, A4, A5, A6⟩ := A
    obtain ⟨T', h', X', eT', W, st⟩ := stC X K.1 K.2.1 eT A1 (j := j) (x := x) (inb_of A3 hj) (g := mkF m pc L (.int x :: .int j :: .ref a :: S)) rfl rfl (hb K.2.2.2.1 hd)
    exact ⟨T', h', _, _, xs, X', eT', Nat.le_of_eq W.size.symm, Fr.snoc X' N ha, fun vm H => H.wr W hax, st, r h' (hi ▸ W) (Arv.set A1 A2 A3 A4 A5 A6 (fits_nar_char _) W i hi hl)⟩
theorem Go.bastore (K : Cx0 bytes maxL ret mn p meth c) (hq : pc + 1 = q) {a : Addr} {k : ClassId} {z j x : Int32} {vs : List Value} {dv : Value} (A : Arv Z h a k .byte z vs dv) {i : Nat} (hd : decode bytes pc = .ok (.bastore, 1)) (hj : ¬ j < 0 ∧ j < z) (hi : j.toNatClampNeg = i) (hl : i < vs.length) (ha : n0 ≤ a) (hax : a ∈ xs)
    (r : ∀ h', Wr h h' a i (.int (nar .byte x)) → Arv Z h' a k .byte z (vs.set i (.int (nar .byte x))) dv → Go p l e R s m args below meth c Z own cl xs0 n0 kc ks Q xs h' cells slots (mkF m q L S)) : Go p l e R s m args below meth c Z own cl xs0 n0 kc ks Q xs h cells slots (mkF m pc L (.int x :: .int j :: .ref a :: S)) :=
  Go.of_heap (cells' := cells) (slots' := slots) K fun s' K T locs X eT N => by
    subst hq
    obtain ⟨ce, A1, A2, A3, A4, A5, A6⟩ := A
    obtain ⟨T', h', X', eT', W, st⟩ := stB X K.1 K.2.1 eT A1 (j := j) (x := x) (inb_of A3 hj) (g := mkF m pc L (.int x :: .int j :: .ref a :: S)) rfl rfl (hb K.2.2.2.1 hd)
    exact ⟨T', h', _, _, xs, X', eT', Nat.le_of_eq W.size.symm, Fr.snoc X' N ha, fun vm H => H.wr W hax, st, r h' (hi ▸ W) (Arv.set A1 A2 A3 A4 A5 A6 (fits_nar_byte _) W i hi hl)⟩
/-- the walk's start moved up to the heap at hand: nothing written yet, nothing made yet, as much room as is left -/
theorem rebase {T : State} {locs : List Loc} (X : Stand p l e R s m args below meth c T locs cells slots) (hc : cells ≤ R.cells) (hs : slots ≤ R.slots) :
    Stand p l e { R with cells := R.cells - cells, slots := R.slots - slots } { s with heap := T.heap, slotsUsed := T.slotsUsed } m args below meth c T [] 0 0 := by
  have hF : ({ s with heap := T.heap, slotsUsed := T.slotsUsed } : State).frames = .invoking m args :: below := X.frames
  have hm' : ({ s with heap := T.heap, slotsUsed := T.slotsUsed } : State).vm.method? m = some meth := X.method
  have hU : ({ s with heap := T.heap, slotsUsed := T.slotsUsed } : State).localsInUse = s.localsInUse := by
    rw [State.localsInUse_invoking hF hm' X.code, State.localsInUse_invoking X.frames X.method X.code]
  have h1 := X.heapSize
  have h2 := X.used
  have hroom : ({ s with heap := T.heap, slotsUsed := T.slotsUsed } : State).hasRoom e.platform { R with cells := R.cells - cells, slots := R.slots - slots } = true := by
    have hr := X.room
    have hb := X.book
    simp only [State.hasRoom, Bool.and_eq_true, decide_eq_true_eq] at hr ⊢
    rw [hU]
    obtain ⟨⟨⟨⟨r1, r2⟩, r3⟩, r4⟩, r5⟩ := hr
    exact ⟨⟨⟨⟨r1, r2⟩, by show T.heap.size + (R.cells - cells) ≤ _; omega⟩, by show T.slotsUsed + (R.slots - slots) ≤ _; omega⟩, hb⟩
  have hears : ({ s with heap := T.heap, slotsUsed := T.slotsUsed } : State).hears m below = true := X.hears
  obtain ⟨q1, -⟩ := X.same
  refine ⟨X.admits, X.cas, X.clock, hF, hroom, hears, hm', X.code, X.here, X.tail, X.warmed, X.limits, X.bytes, ?_, Nat.le_refl _, Nat.le_refl _, ?_, ?_, fun a c' hc' => ⟨c', hc', rfl, rfl, fun _ _ => rfl⟩⟩
  · exact q1
  · show T.slotsUsed = T.slotsUsed + ((T.heap.toList.drop T.heap.size).map (·.slots.size)).sum
    rw [List.drop_eq_nil_of_le (by simp)]; simp
  · show ((T.heap.toList.drop T.heap.size).map (·.slots.size)).sum ≤ 0
    rw [List.drop_eq_nil_of_le (by simp)]; simp
theorem thread_of {fr : Frame} {r : List Frame} (h : s.frames = fr :: r) : ∃ t, s.threads[s.cur]? = some t := by
  cases q : s.threads[s.cur]? with
  | some t => exact ⟨t, rfl⟩
  | none => simp [State.frames, q] at h
/-- and back again -/
theorem unbase {T T' : State} {locs : List Loc} {vm' : Vm} {k n : Nat} {R' : Room} (X : Stand p l e R s m args below meth c T locs cells slots) (hW : s.Warmed39 vm') (hv : T'.vm = vm') (Y : Stand p l e R' (({ s with heap := T.heap, slotsUsed := T.slotsUsed } : State).setVm vm') m args below meth c T' [] k n) :
    Stand p l e R (s.setVm vm') m args below meth c T' locs (cells + k) (slots + n) := by
  have Xr := X.retabled hW
  have e1 : (s.setVm vm').sameButNew (({ s with heap := T.heap, slotsUsed := T.slotsUsed } : State).setVm vm') locs cells slots := by
    obtain ⟨t, ht⟩ := thread_of X.frames
    obtain ⟨-, q2, q3, q4, q5, q6⟩ := X.same
    refine ⟨?_, q2, q3, q4, q5, q6⟩
    show (({ s with heap := T.heap, slotsUsed := T.slotsUsed } : State).setVm vm') = ({ (s.setVm vm').setFrames (s.setVm vm').frames with heap := T.heap, slotsUsed := T.slotsUsed } : State)
    rw [State.setFrames_self (s := s.setVm vm') ht]
    rfl
  have e2 := e1.trans Y.same
  rw [List.append_nil] at e2
  exact ⟨Xr.admits, Xr.cas, Xr.clock, Xr.frames, Xr.room, Xr.hears, Xr.method, Xr.code, Y.here, Y.tail, by rw [hv]; exact State.WarmedH.refl (s.setVm vm'), Y.limits, Y.bytes, e2⟩
/-- ldc of an entry that is resolved -/
theorem ldc_res {T : State} {locs : List Loc} {vm0 : Vm} {i n : Nat} {a : Addr} {text : String} {units : Array UInt16} (X : Stand p l e R (s.setVm vm0) m args below meth c T locs cells slots) (hx : p.tables.exec = Jvm.exec) (hZ : Z.Warmed39 vm0) (ho : vm0.findClass own = some m.cls) (w : (Cond.stringLink own i text).before a0 Z = true) {k : Class} (hkk : vm0.classes[m.cls]? = some k) (h0 : k.resolved[i]? = some (some (.string a))) (hd : decode c.code pc = .ok (.ldc i, 2)) (hl : Lt Z T.heap xs a units) (H : Lits Z cl xs vm0 T.heap) :
    ∃ (a : Addr) (T' : State), Stand p l e R (s.setVm T'.vm) m args below meth c T' locs (cells + 2) (slots + (n + 4)) ∧ (s.setVm vm0).Since T'.vm T'.heap.size ∧ Ext T.heap T'.heap ∧ Lt Z T'.heap xs a units ∧ Lits Z cl xs T'.vm T'.heap ∧ ∀ t, Steps p.tables e below (T'.setTop (mkF m (pc + 2) L (.ref a :: S))) t → Steps p.tables e below (T.setTop (mkF m pc L S)) t := by
  have hlit : RoadKit.Lit (s.setVm vm0) own i a := by simp [RoadKit.Lit, State.resolvedAt?, State.setVm, ho, hkk, h0]
  exact ⟨a, T, (X.mono (Nat.le_add_right _ _) (Nat.le_add_right _ _)).retabled X.warmed.wide, X.warmed.since _, ⟨Nat.le_refl _, fun _ _ q => q⟩, hl, H.step (s := s.setVm vm0) rfl X.warmed.wide (Or.inl X.warmed.interned_eq), ldcAgain X hx hZ ho w hlit (g := mkF m pc L S) rfl hd⟩
/-- ldc of an entry that is open, its text interned -/
theorem ldc_found {T : State} {locs : List Loc} {vm0 : Vm} {i j n : Nat} {a : Addr} {text : String} {units : Array UInt16} (X : Stand p l e R (s.setVm vm0) m args below meth c T locs cells slots) (hx : p.tables.exec = Jvm.exec) {k : Class} {cf : ClassFile} (hkk : vm0.classes[m.cls]? = some k) (hcf : k.cf = some cf) (hcp : cf.constantPool[i]? = some (.string j)) (hu : cf.constantPool[j]? = some (.utf8 units)) (hnm : namesOf? cf.constantPool i = some (.string text)) (h0 : k.resolved[i]? = some none) (hf : vm0.interned.find? (fun p => p.1 == units) = some (units, a)) (hd : decode c.code pc = .ok (.ldc i, 2)) (hl : Lt Z T.heap xs a units) (H : Lits Z cl xs vm0 T.heap) :
    ∃ (a : Addr) (T' : State), Stand p l e R (s.setVm T'.vm) m args below meth c T' locs (cells + 2) (slots + (n + 4)) ∧ (s.setVm vm0).Since T'.vm T'.heap.size ∧ Ext T.heap T'.heap ∧ Lt Z T'.heap xs a units ∧ Lits Z cl xs T'.vm T'.heap ∧ ∀ t, Steps p.tables e below (T'.setTop (mkF m (pc + 2) L (.ref a :: S))) t → Steps p.tables e below (T.setTop (mkF m pc L S)) t := by
  obtain ⟨k', hk', ek, -, hent, -⟩ := X.warmed.2.2 m.cls k hkk
  have hcf' : k'.cf = some cf := by rw [ek]; exact hcf
  have hif : T.vm.interned.find? (fun p => p.1 == units) = some (units, a) := by rw [X.warmed.interned_eq]; exact hf
  rcases hent i with e0 | ⟨-, r, -, hr⟩
  · have hop : k'.resolved[i]? = some none := e0.trans h0
    have hW : (s.setVm vm0).Warmed39 (T.vm.noted m.cls i (.string a)) := X.warmed.wide.notedString (s := s.setVm vm0) hkk (Or.inl h0) (by rw [hcf]; exact hnm) (by rw [hcf]; exact hcp) (by rw [hcf]; simp [ConstantPool.utf8?, hu]) hif
    have hni : (T.vm.noted m.cls i (.string a)).interned = vm0.interned := X.warmed.interned_eq
    refine ⟨a, T.setVm (T.vm.noted m.cls i (.string a)), (X.mono (Nat.le_add_right _ _) (Nat.le_add_right _ _)).retabled hW, ⟨hW, fun q pr hq hp => ?_⟩, ⟨Nat.le_refl _, fun _ _ q => q⟩, hl, H.step (s := s.setVm vm0) rfl hW (Or.inl hni), fun t hrest => ?_⟩
    · have hp' : (T.vm.noted m.cls i (.string a)).interned[q]? = some pr := hp
      rw [hni] at hp'
      exact absurd (Array.getElem?_eq_some_iff.mp hp').1 (Nat.not_lt.mpr hq)
    · show Steps p.tables e below (T.setTop { method := m, pc := pc, locals := L, stack := S, locked := none }) t
      jvm_step X.here [hx, hd, ldc.wp_string_found (e := e) (s := T) (f := mkF m pc L S) X.here.top hk' hcf' hcp hu hop hif]
      exact hrest
  · exfalso
    cases r <;> simp [State.rightAt, State.setVm, hkk, hcf, hnm] at hr
theorem atoms_at {s' : State} (hZ : Z.Warmed39 s'.vm) (wS : ∀ a ∈ Bundle.stringAtoms, a.before a0 Z = true) : ∀ a ∈ Bundle.stringAtoms, a.before args s' = true := fun d hd => by
  have z := wS d hd
  simp only [Bundle.stringAtoms, List.mem_cons, List.not_mem_nil, or_false] at hd
  rcases hd with rfl | rfl | rfl | rfl | rfl | rfl | rfl
  · exact mv hZ z
  · exact mv hZ z
  · exact mvA hZ z
  · exact mv hZ z
  · exact mv hZ z
  · exact mv hZ z
  · exact mv hZ z
/-- ldc of an entry that is open, its text not yet interned -/
theorem ldc_new {T : State} {locs : List Loc} {vm0 : Vm} {i j n : Nat} {text : String} {units : Array UInt16} (X : Stand p l e R (s.setVm vm0) m args below meth c T locs cells slots) (hx : p.tables.exec = Jvm.exec) (ho : vm0.findClass own = some m.cls) (w : (Cond.stringLink own i text).before a0 Z = true) (wS : ∀ a ∈ Bundle.stringAtoms, a.before a0 Z = true) {k : Class} {cf : ClassFile} (hkk : vm0.classes[m.cls]? = some k) (hcf : k.cf = some cf) (hcp : cf.constantPool[i]? = some (.string j)) (hu : cf.constantPool[j]? = some (.utf8 units)) (hdec : utf16ToString? units = some text) (h0 : k.resolved[i]? = some none) (hf : vm0.interned.find? (fun p => p.1 == units) = none) (hd : decode c.code pc = .ok (.ldc i, 2)) (hn : 4 * text.toList.length ≤ n) (hbig : n ≤ 536870912) (hc' : cells + 2 ≤ R.cells) (hs' : slots + (n + 4) ≤ R.slots) (H : Lits Z cl xs vm0 T.heap) (hZ : Z.Warmed39 vm0) (hlat : ∀ c ∈ text.toList, c.toNat < 256) :
    ∃ (a : Addr) (T' : State), Stand p l e R (s.setVm T'.vm) m args below meth c T' locs (cells + 2) (slots + (n + 4)) ∧ (s.setVm vm0).Since T'.vm T'.heap.size ∧ Ext T.heap T'.heap ∧ Lt Z T'.heap xs a units ∧ Lits Z cl xs T'.vm T'.heap ∧ ∀ t, Steps p.tables e below (T'.setTop (mkF m (pc + 2) L (.ref a :: S))) t → Steps p.tables e below (T.setTop (mkF m pc L S)) t := by
  have held : ConstHeldL ({ s.setVm vm0 with heap := T.heap, slotsUsed := T.slotsUsed } : State) own i := fun c' k' cf' j' us' b q1 q2 q3 q4 q5 q6 => by
    cases (show vm0.findClass own = some c' from q1).symm.trans ho
    cases (show vm0.classes[m.cls]? = some k' from q2).symm.trans hkk
    cases hcf.symm.trans q3
    cases hcp.symm.trans q4
    cases hu.symm.trans q5
    rcases q6 with q6 | ⟨-, q6⟩
    · cases h0.symm.trans q6
    · cases hf.symm.trans q6
  have Y := rebase X (by omega) (by omega)
  obtain ⟨a, T', Y', hS', ⟨kk, hkk', hrr⟩, hb, -, hint, ⟨us, hus, q, cS, hqa, hsl, hkS, hB, hbyt, hloc⟩, st⟩ := Y.ldcColdF (fun b ce hbc => hbc) hx (own := own) ho (mvS (s := { s with heap := T.heap, slotsUsed := T.slotsUsed }) hZ w) (atoms_at hZ wS) held (fun us hu' => Jvm.ClassFile.lat_of_text hu' hlat) (g := mkF m pc L S) rfl hd hn hbig (by show 0 + 2 ≤ R.cells - cells; omega) (by show 0 + (n + 4) ≤ R.slots - slots; omega)
  simp only [Nat.zero_add] at Y'
  have hW : (s.setVm vm0).Warmed39 T'.vm := State.Warmed39.of_rootvm rfl hS'.1
  have E : Ext T.heap T'.heap := ext_of hb
  have hTi : T.vm.interned = vm0.interned := X.warmed.interned_eq
  have hbk : (s.setVm vm0).Since T'.vm T'.heap.size := ⟨hW, fun jj pr hj hp => by
    obtain ⟨z1, z2⟩ := hS'.2 jj pr hj hp
    exact ⟨Nat.le_trans X.same.2.1 z1, z2⟩⟩
  have hlu := Jvm.ClassFile.lat_of_text hus hlat
  have hueq : us = units := by
    have z := (Jvm.ClassFile.units_of_text hus hlat).trans (Jvm.ClassFile.units_of_text hdec hlat).symm
    exact Array.toList_inj.mp z
  subst hueq
  subst hqa
  -- the pair that the intern table has won is this very text's, at this very object
  have hpush : T'.vm.interned = vm0.interned.push (us, q.sa) := by
    have hfd : T'.vm.interned.find? (fun p => p.1 == us) = some (us, q.sa) := by
      obtain ⟨k2, e1, e2, e3, e4, -⟩ := hW.2.2.2 m.cls k hkk
      cases e1.symm.trans hkk'
      rcases e4 i with e0 | ⟨-, r, e5, hr | ⟨a', tx, si, us', rfl, -, q3, q4, q5⟩⟩
      · cases (e0.symm.trans hrr).symm.trans h0
      · cases e5.symm.trans hrr
        simp [State.rightAt, State.setVm, hkk, hcf] at hr
      · cases e5.symm.trans hrr
        rw [hcf] at q3 q4
        have e7 : si = j := by have z := q3.symm.trans hcp; simpa using z
        subst e7
        have e8 : us' = us := by simpa [ConstantPool.utf8?, hu] using q4.symm
        subst e8
        exact q5
    rcases hint with hint | ⟨u2, a2, -, hint⟩
    · rw [hint, hTi, hf] at hfd; cases hfd
    · rw [hint, hTi, Array.find?_push, hf] at hfd
      simp only [Option.none_or] at hfd
      split at hfd
      · cases hfd; rw [hint, hTi]
      · cases hfd
  have hge : T.heap.size ≤ q.sa := by
    have z := hS'.2 vm0.interned.size (us, q.sa) (Nat.le_refl _) (by rw [hpush]; simp)
    exact z.1
  have hge2 : T.heap.size ≤ q.sd := by
    rcases hloc with ⟨z1, -⟩ | ⟨-, z2⟩
    · exact absurd hge (Nat.not_le.mpr z1)
    · exact z2
  have hl : Lt Z T'.heap xs q.sa us := lt_core (hZ.alike.trans hW.alike) hlu hsl hkS hB hbyt (fun z => absurd hge (Nat.not_le.mpr (H.1 _ z))) (fun z => absurd hge2 (Nat.not_le.mpr (H.1 _ z)))
  exact ⟨q.sa, T', unbase (s := s.setVm vm0) X hW rfl Y', hbk, E, hl, (H.ext E).step (s := s.setVm vm0) rfl hW (Or.inr ⟨us, q.sa, hpush, hl⟩), st⟩
/-- ldc of a String constant -/
theorem Go.ldcS (K : Cx0 bytes maxL ret mn p meth c) (hq : pc + 2 = q) {text : String} {i : Nat} (hin : (own, i) ∈ cl) (w : (Cond.stringLink own i text).before a0 Z = true) (wS : ∀ a ∈ Bundle.stringAtoms, a.before a0 Z = true) (hlat : ∀ c ∈ text.toList, c.toNat < 256) (hd : decode bytes pc = .ok (.ldc i, 2)) {n cells' slots' : Nat} (hn : 4 * text.toList.length ≤ n) (hbig : n ≤ 536870912) (hc : cells + 2 = cells') (hs : slots + (n + 4) = slots') (hc' : cells' ≤ R.cells) (hs' : slots' ≤ R.slots)
    (r : ∀ h' a, Ext h h' → (∃ units : Array UInt16, utf16ToString? units = some text ∧ Lt Z h' xs a units) → Go p l e R s m args below meth c Z own cl xs0 n0 kc ks Q xs h' cells' slots' (mkF m q L (.ref a :: S))) : Go p l e R s m args below meth c Z own cl xs0 n0 kc ks Q xs h cells slots (mkF m pc L S) := fun T locs vm0 k0 X hS hk hZ ho eT N H => by
  subst hq hc hs
  have wl : (Cond.stringLink own i text).before args (s.setVm vm0) = true := mvS hZ w
  obtain ⟨k, cf, j, units, hkk, hcf, hcp, hu, hnm, hdec, hres⟩ := Cond.stringLink_spec (s := s.setVm vm0) ho wl
  have hlt := Jvm.ClassFile.lat_of_text hdec hlat
  -- the step, in each of the three ways that the tables can stand
  have key : ∃ (a : Addr) (T' : State), Stand p l e R (s.setVm T'.vm) m args below meth c T' locs (cells + 2) (slots + (n + 4)) ∧ (s.setVm vm0).Since T'.vm T'.heap.size ∧ Ext T.heap T'.heap ∧ Lt Z T'.heap xs a units ∧ Lits Z cl xs T'.vm T'.heap ∧ ∀ t, Steps p.tables e below (T'.setTop (mkF m (pc + 2) L (.ref a :: S))) t → Steps p.tables e below (T.setTop (mkF m pc L S)) t := by
    have hTh : Lits Z cl xs vm0 T.heap := by rw [eT]; exact H
    rcases hres with h0 | ⟨a, h0⟩
    · cases hf : vm0.interned.find? (fun p => p.1 == units) with
      | some pr =>
        obtain ⟨u', a⟩ := pr
        have hu' : u' = units := by have z := Array.find?_some hf; simpa using z
        subst hu'
        have hlt := hTh.2 _ hin _ k cf j u' a ho hkk hcf hcp hu (Or.inr ⟨h0, hf⟩)
        exact ldc_found X K.1 hkk hcf hcp hu hnm h0 hf (hb K.2.1 hd) hlt hTh
      | none =>
        exact ldc_new X K.1 ho w wS hkk hcf hcp hu hdec h0 hf (hb K.2.1 hd) hn hbig hc' hs' hTh hZ hlat
    · have hlt := hTh.2 _ hin _ k cf j units a ho hkk hcf hcp hu (Or.inl h0)
      exact ldc_res X K.1 hZ ho w hkk h0 (hb K.2.1 hd) hlt hTh
  obtain ⟨a, T', X', hS', E, hl, H', st⟩ := key
  subst eT
  obtain ⟨s₂, o, a1, a2⟩ := r T'.heap a E ⟨units, hdec, hl⟩ T' locs T'.vm _ X' (hS.trans hS' (Nat.le_trans hk E.1)) (Nat.le_refl _) (State.Warmed39.trans (t := s.setVm vm0) hZ hS'.1) (by rw [hS'.1.alike.findClass]; exact ho) rfl N H'
  exact ⟨s₂, o, st _ a1, a2⟩
/-! calls -/
abbrev PreB (R : Room) (as' : Array Value) (h : Heap) (dc ds : Nat) : Pt → Array Value → Prop := fun A a => a = as' ∧ A.U.heap = h ∧ A.cells + dc ≤ R.cells ∧ A.slots + ds ≤ R.slots
abbrev PostB (QQ : Option Value → Heap → List Loc → Prop) (dc ds : Nat) : Pt → Array Value → Option Value → Pt → Prop := fun A _ v B => ∃ L, QQ v B.U.heap L ∧ B.locs = A.locs ++ L ∧ B.cells = A.cells + dc ∧ B.slots = A.slots + ds
theorem Go.bS (K : Cx0 bytes maxL ret mn p meth c) (hq : pc + 3 = q) {i : Nat} {y : MethodName} {bytes' : ByteArray} {maxL' : Nat} {ret' : Option FieldType} (w1 : (Cond.methodLink own i y).before a0 Z = true) (w2 : (Cond.static y).before a0 Z = true) (w3 : (Cond.initialized y.cls).before a0 Z = true) (w4 : (Cond.code y bytes' maxL' ret').before a0 Z = true) (hy : y.cls ≠ "java/lang/invoke/MethodHandle" ∧ y.cls ≠ "java/lang/invoke/VarHandle")
    {W dc ds cells' slots' : Nat} {as' : Array Value} {QQ : Option Value → Heap → List Loc → Prop} (B : ∀ s' : State, Z.Warmed39 s'.vm → Back l R p e below s' args y 3 W (PreB R as' h dc ds) (PostB QQ dc ds)) {sig : MethodDescriptor} (hsig : parseMethodDescriptor y.desc = some sig) {argsL rest : List Value} (has : as' = argsL.toArray) (hlen : argsL.length = sig.parameters.length) (hS : S = argsL.reverse ++ rest) (hsz : L.size = maxL) (hW : (rest.map fun v => v.category).sum ≤ W)
    (hd : decode bytes pc = .ok (.invokestatic i, 3)) (hc : cells + dc = cells') (hs : slots + ds = slots') (hc' : cells' ≤ R.cells) (hs' : slots' ≤ R.slots) (r : ∀ v h' L', QQ v h' L' → Fr n0 L' ∧ h.size ≤ h'.size ∧ ∃ xs', (∀ vm, Lits Z cl xs vm h → Lits Z cl xs' vm h') ∧ Go p l e R s m args below meth c Z own cl xs0 n0 kc ks Q xs' h' cells' slots' (mkF m q L (v.toList ++ rest))) : Go p l e R s m args below meth c Z own cl xs0 n0 kc ks Q xs h cells slots (mkF m pc L S) :=
  Go.of_heap (cells' := cells') (slots' := slots') K fun s' K T locs X eT N => by
    subst hq hc hs
    obtain ⟨v, vm₁, ⟨T', L', k', n'⟩, -, X', ⟨Lc, hQ, l1, l2, l3⟩, st⟩ := Jvm.LawKit.callS X K.1 (y := y) K.2.2.1 (mvT K.2.1 w1) (mvT K.2.1 w2) (mvT K.2.1 w3) (mvT K.2.1 w4) hy (B s' K.2.1) (g := mkF m pc L S) rfl (hsz.trans K.2.2.2.2.1.symm) (argsL := argsL) (rest := rest) (fun sg hg => by rw [hsig] at hg; cases hg; exact hlen) hS (by show 2 * 0 + _ ≤ _; omega) (hb K.2.2.2.1 hd) (fun _ _ => ⟨has.symm, eT, hc', hs'⟩)
    dsimp only [Pt.U, Pt.locs, Pt.cells, Pt.slots] at X' l1 l2 l3 st hQ
    subst l1 l2 l3
    obtain ⟨N', hsz', xs', HH, G⟩ := r v T'.heap Lc hQ
    exact ⟨T', T'.heap, _, _, xs', X', rfl, hsz', Fr.app N N', HH, st, G⟩
theorem Go.bI (K : Cx0 bytes maxL ret mn p meth c) (hq : pc + 3 = q) {i : Nat} {y : MethodName} {bytes' : ByteArray} {maxL' : Nat} (hyi : y.name = "<init>") (w1 : (Cond.methodLink own i y).before a0 Z = true) (w2 : (Cond.instanceMethod y).before a0 Z = true) (w4 : (Cond.code y bytes' maxL' none).before a0 Z = true) (hy : y.cls ≠ "java/lang/invoke/MethodHandle" ∧ y.cls ≠ "java/lang/invoke/VarHandle")
    {W dc ds cells' slots' : Nat} {as' : Array Value} {QQ : Option Value → Heap → List Loc → Prop} (B : ∀ s' : State, Z.Warmed39 s'.vm → Back l R p e below s' args y 3 W (PreB R as' h dc ds) (PostB QQ dc ds)) {sig : MethodDescriptor} (hsig : parseMethodDescriptor y.desc = some sig) {a : Addr} {argsL rest : List Value} (has : as' = (.ref a :: argsL).toArray) (hlen : argsL.length = sig.parameters.length) (hS : S = argsL.reverse ++ .ref a :: rest) (hsz : L.size = maxL) (hW : (rest.map fun v => v.category).sum ≤ W)
    (hd : decode bytes pc = .ok (.invokespecial i, 3)) (hc : cells + dc = cells') (hs : slots + ds = slots') (hc' : cells' ≤ R.cells) (hs' : slots' ≤ R.slots) (r : ∀ v h' L', QQ v h' L' → Fr n0 L' ∧ h.size ≤ h'.size ∧ ∃ xs', (∀ vm, Lits Z cl xs vm h → Lits Z cl xs' vm h') ∧ Go p l e R s m args below meth c Z own cl xs0 n0 kc ks Q xs' h' cells' slots' (mkF m q L (v.toList ++ rest))) : Go p l e R s m args below meth c Z own cl xs0 n0 kc ks Q xs h cells slots (mkF m pc L S) :=
  Go.of_heap (cells' := cells') (slots' := slots') K fun s' K T locs X eT N => by
    subst hq hc hs
    obtain ⟨v, vm₁, ⟨T', L', k', n'⟩, -, X', ⟨Lc, hQ, l1, l2, l3⟩, st⟩ := X.specialBack K.1 (y := y) hyi K.2.2.1 (mvT K.2.1 w1) (mvT K.2.1 w2) (mvT K.2.1 w4) hy (B s' K.2.1) (g := mkF m pc L S) rfl (hsz.trans K.2.2.2.2.1.symm) (Steps.refl _) (a := a) (argsL := argsL) (rest := rest) (fun sg hg => by rw [hsig] at hg; cases hg; exact hlen) hS (by show 2 * 0 + _ ≤ _; omega) (hb K.2.2.2.1 hd) (fun _ _ => ⟨has.symm, eT, hc', hs'⟩)
    dsimp only [Pt.U, Pt.locs, Pt.cells, Pt.slots] at X' l1 l2 l3 st hQ
    subst l1 l2 l3
    obtain ⟨N', hsz', xs', HH, G⟩ := r v T'.heap Lc hQ
    exact ⟨T', T'.heap, _, _, xs', X', rfl, hsz', Fr.app N N', HH, fun t k => st.trans k, G⟩
theorem Go.bV (K : Cx0 bytes maxL ret mn p meth c) (hq : pc + 3 = q) {i : Nat} {C : String} {y z : MethodName} (w1 : (Cond.methodLink own i y).before a0 Z = true) (w2 : (Cond.declares y).before a0 Z = true) (nf : ∀ s' : State, Z.Warmed39 s'.vm → NotFace s' y) (w3 : (Cond.selects C y z).before a0 Z = true) (w4 : (Cond.instanceMethod z).before a0 Z = true) (hy : y.cls ≠ "java/lang/invoke/MethodHandle" ∧ y.cls ≠ "java/lang/invoke/VarHandle")
    {W dc ds cells' slots' : Nat} {as' : Array Value} {QQ : Option Value → Heap → List Loc → Prop} (B : ∀ s' : State, Z.Warmed39 s'.vm → Back l R p e below s' args z 3 W (PreB R as' h dc ds) (PostB QQ dc ds)) {a : Addr} (E : Exa Z h a C) {sig : MethodDescriptor} (hsig : parseMethodDescriptor y.desc = some sig) {argsL rest : List Value} (has : as' = (.ref a :: argsL).toArray) (hlen : argsL.length = sig.parameters.length) (hS : S = argsL.reverse ++ .ref a :: rest) (hsz : L.size = maxL) (hW : (rest.map fun v => v.category).sum ≤ W)
    (hd : decode bytes pc = .ok (.invokevirtual i, 3)) (hc : cells + dc = cells') (hs : slots + ds = slots') (hc' : cells' ≤ R.cells) (hs' : slots' ≤ R.slots) (r : ∀ v h' L', QQ v h' L' → Fr n0 L' ∧ h.size ≤ h'.size ∧ ∃ xs', (∀ vm, Lits Z cl xs vm h → Lits Z cl xs' vm h') ∧ Go p l e R s m args below meth c Z own cl xs0 n0 kc ks Q xs' h' cells' slots' (mkF m q L (v.toList ++ rest))) : Go p l e R s m args below meth c Z own cl xs0 n0 kc ks Q xs h cells slots (mkF m pc L S) :=
  Go.of_heap (cells' := cells') (slots' := slots') K fun s' K T locs X eT N => by
    subst hq hc hs
    obtain ⟨cq, kq, qa, qb, qc⟩ := isOf K.2.1 eT E
    obtain ⟨v, vm₁, ⟨T', L', k', n'⟩, -, X', ⟨Lc, hQ, l1, l2, l3⟩, st⟩ := X.virtualBack K.1 (y := y) (z := z) K.2.2.1 (mvT K.2.1 w1) (mvT K.2.1 w2) (nf s' K.2.1) (mvT K.2.1 w3) (mvT K.2.1 w4) hy (B s' K.2.1) qa qc (g := mkF m pc L S) rfl (hsz.trans K.2.2.2.2.1.symm) (Steps.refl _) (argsL := argsL) (rest := rest) (fun sg hg => by rw [hsig] at hg; cases hg; exact hlen) hS (by show 2 * 0 + _ ≤ _; omega) (hb K.2.2.2.1 hd) (fun _ _ => ⟨has.symm, eT, hc', hs'⟩)
    dsimp only [Pt.U, Pt.locs, Pt.cells, Pt.slots] at X' l1 l2 l3 st hQ
    subst l1 l2 l3
    obtain ⟨N', hsz', xs', HH, G⟩ := r v T'.heap Lc hQ
    exact ⟨T', T'.heap, _, _, xs', X', rfl, hsz', Fr.app N N', HH, fun t k => st.trans k, G⟩
theorem nfS {C : String} {y : MethodName} (w3 : (Cond.selects C y y).before a0 Z = true) : ∀ s' : State, Z.Warmed39 s'.vm → NotFace s' y := fun s' hZ => notFace_of_selects (args := #[]) (mvT hZ w3)
theorem nfTop {y : MethodName} (w : (Cond.noSuperclass y.cls).before a0 Z = true) : ∀ s' : State, Z.Warmed39 s'.vm → NotFace s' y := fun s' hZ => nf_top (args := #[]) (mvT hZ w)
theorem nfSup {y : MethodName} {C : String} (w : (Cond.superclass y.cls C).before a0 Z = true) : ∀ s' : State, Z.Warmed39 s'.vm → NotFace s' y := fun s' hZ => nf_super (args := #[]) (mvT hZ w)
abbrev PreW (Z : State) (cl : List (String × Nat)) (xs : List Addr) (R : Room) (as' : Array Value) (h : Heap) (dc ds : Nat) : Pt → Array Value → Prop := fun A a => a = as' ∧ A.U.heap = h ∧ Lits Z cl xs A.U.vm h ∧ A.cells + dc ≤ R.cells ∧ A.slots + ds ≤ R.slots
abbrev PostW (Z : State) (cl : List (String × Nat)) (xs : List Addr) (n0 : Nat) (Q' : Option Value → Heap → Prop) (dc ds : Nat) : Pt → Array Value → Option Value → Pt → Prop := fun A _ v B => ∃ L, (Q' v B.U.heap ∧ Lits Z cl xs B.U.vm B.U.heap ∧ Fr n0 L) ∧ B.locs = A.locs ++ L ∧ B.cells = A.cells + dc ∧ B.slots = A.slots + ds
/-- a callee's contract as what pays a call -/
theorem Ctr.back {s' : State} (hZ : Z.Warmed39 s'.vm) {y : MethodName} {bytes' : ByteArray} {maxL' : Nat} {ret' : Option FieldType} {rm : Room} {as' : Array Value} {Q' : Option Value → Heap → Prop} {W : Nat} (C : Ctr l Z cl xs n0 y bytes' maxL' ret' [] rm as' h Q') (w4 : (Cond.code y bytes' maxL' ret').before a0 Z = true) (w3 : (Cond.initialized y.cls).before a0 Z = true) (hf : rm.frames + 1 ≤ R.frames) (hl : W + (maxL' + 11) + rm.locals ≤ R.locals) :
    BackS l R p e below s' args y 3 W (PreW Z cl xs R as' h rm.cells rm.slots) (PostW Z cl xs n0 Q' rm.cells rm.slots) :=
  BackS.of_freeW (bytes := bytes') (maxL := maxL') (ret := ret') (E := fun _ _ o t L k n => k = rm.cells ∧ n = rm.slots ∧ ∃ v, o = .returned v ∧ (Q' v t.heap ∧ Lits Z cl xs t.vm t.heap ∧ Fr n0 L)) C hf hl
    (fun m meth c A a Y hp => have hU : Z.Warmed39 A.U.vm := wtrans hZ Y.warmed
      ⟨by show (Cond.and _ .tt).before a A.U = true; rw [Cond.before_and, mv hU w4]; rfl, mv hU w4, mv hU w3, hp.2.2.2.1, hp.2.2.2.2⟩)
    (fun m meth c A a g mk Y hp => ⟨hp.1, wtrans hZ Y.warmed, hp.2.1, hp.2.2.1⟩) (fun _ _ _ _ _ _ _ _ _ => trivial)
    (fun _ _ _ _ ⟨v, L, h1, h2, h3⟩ => ⟨L, _, _, h3, rfl, rfl, v, h1, h2⟩)
    (fun m meth c A a g mk v t L k n Y hp _ _ ⟨e1, e2, v', e3, e4⟩ => by cases e3; subst e1 e2; exact ⟨L, e4, rfl, rfl, rfl⟩)
/-- behind a callee that may have loaded constants -/
theorem Go.behind {f f' : JFrame} {Q' : Option Value → Heap → Prop} {dc ds cells' slots' : Nat} {T : State} {locs : List Loc} {vm0 vm1 : Vm} {k0 : Nat} {B : Pt} {a : Array Value} {v : Option Value} (hk : k0 ≤ h.size) (eT : T.heap = h) (hSi : s.Since vm0 k0) (hZ : Z.Warmed39 vm0) (ho : vm0.findClass own = some m.cls) (N : Fr n0 locs) (hc : cells + dc = cells') (hs : slots + ds = slots')
    (X' : Stand p l e R ((s.setVm vm0).setVm B.U.vm) m args below meth c B.U B.locs B.cells B.slots) (hS' : (s.setVm vm0).Since B.U.vm B.U.heap.size) (hg : T.heap.size ≤ B.U.heap.size) (post : PostW Z cl xs n0 Q' dc ds ⟨T.setVm vm1, locs, cells, slots⟩ a v B) (st : Steps p.tables e below (T.setTop f) (B.U.setTop f')) (r : ∀ h', Q' v h' → h.size ≤ h'.size → Go p l e R s m args below meth c Z own cl xs0 n0 kc ks Q xs h' cells' slots' f') :
    ∃ s₂ o, Steps p.tables e below (T.setTop f) s₂ ∧ s₂.status = .running ∧ Ended s₂ below o ∧ ∃ v L, o = .returned v ∧ (Q v s₂.heap ∧ Lits Z cl xs0 s₂.vm s₂.heap ∧ Fr n0 L) ∧ ReturnedEndW s o s₂ L kc ks := by
  obtain ⟨B1, B2, B3, B4⟩ := B
  obtain ⟨Lc, ⟨hQ, HL, NL⟩, l1, l2, l3⟩ := post
  dsimp only [Pt.U, Pt.locs, Pt.cells, Pt.slots] at X' hS' hg l1 l2 l3 st hQ HL
  subst l1 l2 l3 hc hs
  obtain ⟨s₂, o, a1, a2⟩ := r B1.heap hQ (by rw [← eT]; exact hg) B1 _ B1.vm _ X' (hSi.trans hS' (Nat.le_trans hk (by rw [← eT]; exact hg))) (Nat.le_refl _) (State.Warmed39.trans (t := s.setVm vm0) hZ hS'.1) (by rw [hS'.1.alike.findClass]; exact ho) rfl (Fr.app N NL) HL
  exact ⟨s₂, o, st.trans a1, a2⟩
theorem Lits.warm {vm0 vm1 : Vm} (H : Lits Z cl xs vm0 h) (hW : (s.setVm vm0).WarmedH vm1) : Lits Z cl xs vm1 h := H.step (s := s.setVm vm0) rfl hW.wide (Or.inl hW.interned_eq)
/-- a static call by the callee's contract -/
theorem Go.cS (K : Cx0 bytes maxL ret mn p meth c) (hq : pc + 3 = q) {i : Nat} {y : MethodName} {bytes' : ByteArray} {maxL' : Nat} {ret' : Option FieldType} {rm : Room} {as' : Array Value} {Q' : Option Value → Heap → Prop} (C : Ctr l Z cl xs n0 y bytes' maxL' ret' [] rm as' h Q') (w1 : (Cond.methodLink own i y).before a0 Z = true) (w2 : (Cond.static y).before a0 Z = true) (w3 : (Cond.initialized y.cls).before a0 Z = true) (w4 : (Cond.code y bytes' maxL' ret').before a0 Z = true) (hy : y.cls ≠ "java/lang/invoke/MethodHandle" ∧ y.cls ≠ "java/lang/invoke/VarHandle")
    {sig : MethodDescriptor} (hsig : parseMethodDescriptor y.desc = some sig) {argsL rest : List Value} (has : as' = argsL.toArray) (hlen : argsL.length = sig.parameters.length) (hS : S = argsL.reverse ++ rest) (hsz : L.size = maxL) {W cells' slots' : Nat} (hW : (rest.map fun v => v.category).sum ≤ W) (hf : rm.frames + 1 ≤ R.frames) (hl : W + (maxL' + 11) + rm.locals ≤ R.locals)
    (hd : decode bytes pc = .ok (.invokestatic i, 3)) (hc : cells + rm.cells = cells') (hs : slots + rm.slots = slots') (hc' : cells' ≤ R.cells) (hs' : slots' ≤ R.slots) (r : ∀ v h', Q' v h' → h.size ≤ h'.size → Go p l e R s m args below meth c Z own cl xs0 n0 kc ks Q xs h' cells' slots' (mkF m q L (v.toList ++ rest))) : Go p l e R s m args below meth c Z own cl xs0 n0 kc ks Q xs h cells slots (mkF m pc L S) := fun T locs vm0 k0 X hSi hk hZ ho eT N H => by
  subst hq
  obtain ⟨v, vm₁, B, -, X', hS', hg, post, st⟩ := callSS X K.1 (y := y) ho (mvT hZ w1) (mvT hZ w2) (mvT hZ w3) (mvT hZ w4) hy (C.back (W := W) hZ w4 w3 hf hl) (g := mkF m pc L S) rfl (hsz.trans K.2.2.1.symm) (argsL := argsL) (rest := rest) (fun sg hg => by rw [hsig] at hg; cases hg; exact hlen) hS (by show 2 * 0 + _ ≤ _; omega) (hb K.2.1 hd) (fun vm₁ h₁ => ⟨has.symm, eT, H.warm h₁, by rw [hc]; exact hc', by rw [hs]; exact hs'⟩)
  exact Go.behind hk eT hSi hZ ho N hc hs X' hS' hg post st (r v)
/-- a constructor by its contract -/
theorem Go.cI (K : Cx0 bytes maxL ret mn p meth c) (hq : pc + 3 = q) {i : Nat} {y : MethodName} {bytes' : ByteArray} {maxL' : Nat} {rm : Room} {as' : Array Value} {Q' : Option Value → Heap → Prop} (C : Ctr l Z cl xs n0 y bytes' maxL' none [] rm as' h Q') (hyi : y.name = "<init>") (w1 : (Cond.methodLink own i y).before a0 Z = true) (w2 : (Cond.instanceMethod y).before a0 Z = true) (w3 : (Cond.initialized y.cls).before a0 Z = true) (w4 : (Cond.code y bytes' maxL' none).before a0 Z = true) (hy : y.cls ≠ "java/lang/invoke/MethodHandle" ∧ y.cls ≠ "java/lang/invoke/VarHandle")
    {sig : MethodDescriptor} (hsig : parseMethodDescriptor y.desc = some sig) {a : Addr} {argsL rest : List Value} (has : as' = (.ref a :: argsL).toArray) (hlen : argsL.length = sig.parameters.length) (hS : S = argsL.reverse ++ .ref a :: rest) (hsz : L.size = maxL) {W cells' slots' : Nat} (hW : (rest.map fun v => v.category).sum ≤ W) (hf : rm.frames + 1 ≤ R.frames) (hl : W + (maxL' + 11) + rm.locals ≤ R.locals)
    (hd : decode bytes pc = .ok (.invokespecial i, 3)) (hc : cells + rm.cells = cells') (hs : slots + rm.slots = slots') (hc' : cells' ≤ R.cells) (hs' : slots' ≤ R.slots) (r : ∀ v h', Q' v h' → h.size ≤ h'.size → Go p l e R s m args below meth c Z own cl xs0 n0 kc ks Q xs h' cells' slots' (mkF m q L (v.toList ++ rest))) : Go p l e R s m args below meth c Z own cl xs0 n0 kc ks Q xs h cells slots (mkF m pc L S) := fun T locs vm0 k0 X hSi hk hZ ho eT N H => by
  subst hq
  obtain ⟨v, vm₁, B, -, X', hS', hg, post, st⟩ := X.specialBackS K.1 (y := y) hyi ho (mvT hZ w1) (mvT hZ w2) (mvT hZ w4) hy (C.back (W := W) hZ w4 w3 hf hl) (g := mkF m pc L S) rfl (hsz.trans K.2.2.1.symm) (Steps.refl _) (a := a) (argsL := argsL) (rest := rest) (fun sg hg => by rw [hsig] at hg; cases hg; exact hlen) hS (by show 2 * 0 + _ ≤ _; omega) (hb K.2.1 hd) (fun vm₁ h₁ => ⟨has.symm, eT, H.warm h₁, by rw [hc]; exact hc', by rw [hs]; exact hs'⟩)
  exact Go.behind hk eT hSi hZ ho N hc hs X' hS' hg post st (r v)
/-- an instance method by its contract -/
theorem Go.cV (K : Cx0 bytes maxL ret mn p meth c) (hq : pc + 3 = q) {i : Nat} {C0 : String} {y z : MethodName} {bytes' : ByteArray} {maxL' : Nat} {ret' : Option FieldType} {rm : Room} {as' : Array Value} {Q' : Option Value → Heap → Prop} (C : Ctr l Z cl xs n0 z bytes' maxL' ret' [] rm as' h Q') (w1 : (Cond.methodLink own i y).before a0 Z = true) (w2 : (Cond.declares y).before a0 Z = true) (nf : ∀ s' : State, Z.Warmed39 s'.vm → NotFace s' y) (w3 : (Cond.selects C0 y z).before a0 Z = true) (w4 : (Cond.instanceMethod z).before a0 Z = true) (w5 : (Cond.initialized z.cls).before a0 Z = true) (w6 : (Cond.code z bytes' maxL' ret').before a0 Z = true) (hy : y.cls ≠ "java/lang/invoke/MethodHandle" ∧ y.cls ≠ "java/lang/invoke/VarHandle")
    {a : Addr} (E : Exa Z h a C0) {sig : MethodDescriptor} (hsig : parseMethodDescriptor y.desc = some sig) {argsL rest : List Value} (has : as' = (.ref a :: argsL).toArray) (hlen : argsL.length = sig.parameters.length) (hS : S = argsL.reverse ++ .ref a :: rest) (hsz : L.size = maxL) {W cells' slots' : Nat} (hW : (rest.map fun v => v.category).sum ≤ W) (hf : rm.frames + 1 ≤ R.frames) (hl : W + (maxL' + 11) + rm.locals ≤ R.locals)
    (hd : decode bytes pc = .ok (.invokevirtual i, 3)) (hc : cells + rm.cells = cells') (hs : slots + rm.slots = slots') (hc' : cells' ≤ R.cells) (hs' : slots' ≤ R.slots) (r : ∀ v h', Q' v h' → h.size ≤ h'.size → Go p l e R s m args below meth c Z own cl xs0 n0 kc ks Q xs h' cells' slots' (mkF m q L (v.toList ++ rest))) : Go p l e R s m args below meth c Z own cl xs0 n0 kc ks Q xs h cells slots (mkF m pc L S) := fun T locs vm0 k0 X hSi hk hZ ho eT N H => by
  subst hq
  obtain ⟨cq, kq, qa, qb, qc⟩ := isOf (s := s.setVm vm0) hZ eT E
  obtain ⟨v, vm₁, B, -, X', hS', hg, post, st⟩ := X.virtualBackS K.1 (y := y) (z := z) ho (mvT hZ w1) (mvT hZ w2) (nf (s.setVm vm0) hZ) (mvT hZ w3) (mvT hZ w4) hy (C.back (W := W) hZ w6 w5 hf hl) qa qc (g := mkF m pc L S) rfl (hsz.trans K.2.2.1.symm) (Steps.refl _) (argsL := argsL) (rest := rest) (fun sg hg => by rw [hsig] at hg; cases hg; exact hlen) hS (by show 2 * 0 + _ ≤ _; omega) (hb K.2.1 hd) (fun vm₁ h₁ => ⟨has.symm, eT, H.warm h₁, by rw [hc]; exact hc', by rw [hs]; exact hs'⟩)
  exact Go.behind hk eT hSi hZ ho N hc hs X' hS' hg post st (r v)
end Rules
theorem notsub {Z : State} {a0 : Array Value} {C S K : String} {n : Nat} (w : (Cond.superclass C S).before a0 Z = true) (wn : (Cond.noSuperclass S).before a0 Z = true) (wk : (Cond.instantiable K n).before a0 Z = true) (h1 : C ≠ K) (h2 : S ≠ K) : ∃ c t, Z.vm.findClass C = some c ∧ Z.vm.findClass K = some t ∧ Z.vm.assignable c t = false := by
  obtain ⟨t, kt, g1, g2, g3, g4, -⟩ := Cond.instantiable_spec wk
  obtain ⟨c0, k0, m1, m2, m3, -, -⟩ := Cond.noSuperclass_spec wn
  obtain ⟨c, h0⟩ := found_sup w
  obtain ⟨p, k, kp, s1, s2, s3, s4, s5, -, s7⟩ := Cond.superclass_spec h0 w
  cases m1.symm.trans s1
  have e1 := ids_ne h0 g1 h1
  have e2 := ids_ne m1 g1 h2
  have g5 : kt.isInterface = false := by cases q : kt.isInterface <;> simp_all
  have sub : ∀ fuel, Z.vm.isSubclassAux fuel c t = false := fun fuel => by
    cases fuel with
    | zero => rfl
    | succ f =>
      cases f with
      | zero => simp [Vm.isSubclassAux, e1, s2, s4]
      | succ f => simp [Vm.isSubclassAux, e1, s2, s4, e2, m2, m3]
  refine ⟨c, t, h0, g1, ?_⟩
  show Z.vm.assignableAux (255 + 1) c t = false
  simp [Vm.assignableAux, e1, s2, g2, s5, g3, g5, Vm.isSubclass, sub]
/-! what is carried -/
theorem Ext.refl (h : Heap) : Ext h h := ⟨Nat.le_refl _, fun _ _ q => q⟩
theorem Ext.trans {h0 h h' : Heap} (E : Ext h0 h) (E' : Ext h h') : Ext h0 h' := ⟨Nat.le_trans E.1 E'.1, fun a c q => E'.2 a c (E.2 a c q)⟩
theorem Ext.keep {h0 h h' : Heap} {ws : List Addr} (E : Ext h0 h) (K : Keep h h' ws) (q : ∀ x ∈ ws, h0.size ≤ x) : Ext h0 h' :=
  ⟨Nat.le_trans E.1 K.1, fun a c r => K.2.1 a c (E.2 a c r) fun z => absurd (Array.getElem?_eq_some_iff.mp r).1 (Nat.not_lt.mpr (q a z))⟩
theorem Ext.wr {h0 h h' : Heap} {a : Addr} {sl : Nat} {v : Value} (E : Ext h0 h) (W : Wr h h' a sl v) (q : h0.size ≤ a) : Ext h0 h' := Ext.keep E (Keep.of_wr W) (allS q all0)
theorem Ext.of_keep {h h' : Heap} (K : Keep h h' []) : Ext h h' := ⟨K.1, fun a c q => K.2.1 a c q nin0⟩
theorem Ext.sta {Z : State} {h h' : Heap} {C n d : String} {v : Value} (E : Ext h h') (F : Sta Z h C n d v) : Sta Z h' C n d v := F.ext E
end Jvm.Pilot.@@N@@.W
namespace Jvm.Pilot.@@N@@.W
open Jvm Jvm.ClassFile Sem Op Lib Jvm.Free Jvm.Stand Jvm.LawKit Jvm.RoadKit
/-- how a String's bytes spell its chars (Latin-1 alone) -/
def CodL (cs : List Int32) (cd N2 : Int32) (vs : List Value) : Prop := (cd = 0 ∧ N2 = Int32.ofNat cs.length ∧ vs = (cs.map fun c => Value.int c.toInt8.toInt32) ∧ ∀ c ∈ cs, ¬ (255 : Int32) < c) ∨ False
/-- a String with the chars cs -/
def Str (Z : State) (h : Heap) (a : Addr) (cs : List Int32) : Prop :=
  ∃ (t : Addr) (kb : ClassId) (cd N2 : Int32) (vs : List Value), Exa Z h a "java/lang/String" ∧ Fld Z h a "java/lang/String" "value" "[B" (.ref t) ∧ Fld Z h a "java/lang/String" "coder" "B" (.int cd) ∧ Arv Z h t kb .byte N2 vs (.int 0) ∧ CodL cs cd N2 vs ∧ (∀ c ∈ cs, ¬ c < 0 ∧ ¬ (65535 : Int32) < c) ∧ cs.length ≤ 4000
theorem Str.ext {Z : State} {h h' : Heap} {a : Addr} {cs : List Int32} (F : Str Z h a cs) (E : Ext h h') : Str Z h' a cs := by
  obtain ⟨t, kb, cd, N2, vs, f1, f2, f3, f4, f5⟩ := F
  exact ⟨t, kb, cd, N2, vs, f1.ext E, f2.ext E, f3.ext E, f4.ext E, f5⟩
theorem Str.exa {Z : State} {h : Heap} {a : Addr} {cs : List Int32} (F : Str Z h a cs) : Exa Z h a "java/lang/String" := by
  obtain ⟨t, kb, cd, N2, vs, f1, -⟩ := F; exact f1
theorem up16 {cs : List Int32} (h : ∀ c ∈ cs, ¬ c < 0 ∧ ¬ (255 : Int32) < c) : ∀ c ∈ cs, ¬ c < 0 ∧ ¬ (65535 : Int32) < c := fun c hc => ⟨(h c hc).1, fun q => (h c hc).2 (by rw [Int32.lt_iff_toInt_lt] at q ⊢; have e1 : (65535 : Int32).toInt = 65535 := rfl; have e2 : (255 : Int32).toInt = 255 := rfl; omega)⟩
/-- a text's chars -/
def chs (text : String) : List Int32 := text.toList.map fun c => Int32.ofNat c.toNat
theorem Str.lit {Z : State} {h : Heap} {xs : List Addr} {a : Addr} {text : String} (hlat : ∀ c ∈ text.toList, c.toNat < 256) (hlen : text.toList.length ≤ 4000) (F : ∃ units : Array UInt16, utf16ToString? units = some text ∧ Lt Z h xs a units) : Str Z h a (chs text) := by
  obtain ⟨units, hu, t, kb, f1, f2, f3, f4, -, -⟩ := F
  have e := Jvm.ClassFile.units_of_text hu hlat
  have hsz : units.size = (chs text).length := by rw [← Array.length_toList, e]; simp [chs]
  have t255 : ∀ k : Fin 256, Jvm.Lit.byteI (k.val.toUInt16) = (Int32.ofNat k.val).toInt8.toInt32 ∧ ¬ (255 : Int32) < Int32.ofNat k.val ∧ ¬ Int32.ofNat k.val < 0 := by decide +kernel
  have hb : ∀ c ∈ chs text, ¬ c < 0 ∧ ¬ (255 : Int32) < c := fun c hc => by
    obtain ⟨ch, h1, rfl⟩ := List.mem_map.mp hc
    exact ⟨(t255 ⟨_, hlat ch h1⟩).2.2, (t255 ⟨_, hlat ch h1⟩).2.1⟩
  refine ⟨t, kb, 0, _, _, f1, f2, f3, f4, Or.inl ⟨rfl, by rw [hsz], ?_, fun c hc => (hb c hc).2⟩, up16 hb, by simpa [chs] using hlen⟩
  rw [e]
  simp only [chs, List.map_map]
  refine List.map_congr_left fun ch h1 => ?_
  exact congrArg Value.int (t255 ⟨_, hlat ch h1⟩).1
/-- a constructor's writes into an object that is no String leave every String -/
theorem Str.keepO {Z : State} {h h' : Heap} {s a : Addr} {C : String} {cs : List Int32} {a0 : Array Value} {n : Nat} (F : Str Z h s cs) (E : Exa Z h a C) (hC : C ≠ "java/lang/String") (wi : (Cond.instantiable C n).before a0 Z = true) (K : Keep h h' [a]) : Str Z h' s cs := by
  obtain ⟨t, kb, cd, N2, vs, f1, f2, f3, f4, f5⟩ := F
  have n1 : s ∉ [a] := ninS (fun q => (Exa.ne E f1 hC) q.symm) nin0
  have n2 : t ∉ [a] := ninS (fun q => (Exa.neArv E f4 wi) q.symm) nin0
  exact ⟨t, kb, cd, N2, vs, f1.keep K, f2.keep K n1, f3.keep K n1, f4.keep K n2, f5⟩
theorem fld_uniq {Z : State} {h : Heap} {a : Addr} {C n d : String} {v w : Value} (F : Fld Z h a C n d v) (G : Fld Z h a C n d w) : v = w := by
  by_cases q : v = w
  · exact q
  · exact absurd rfl (Fld.ne F G q)
theorem lo8_one {x y : Int32} (hx : ¬ x < 0 ∧ ¬ (255 : Int32) < x) (hy : ¬ y < 0 ∧ ¬ (255 : Int32) < y) (h : x.toInt8.toInt32 = y.toInt8.toInt32) : x = y := by
  apply Int32.toInt_inj.mp
  have e1 := c_i2b x
  have e2 := c_i2b y
  rw [h] at e1
  simp only [Int32.lt_iff_toInt_lt] at hx hy
  have z0 : (0 : Int32).toInt = 0 := rfl
  have z1 : (255 : Int32).toInt = 255 := rfl
  omega
theorem lo8_list : ∀ (cs ds : List Int32), (∀ c ∈ cs, ¬ c < 0 ∧ ¬ (255 : Int32) < c) → (∀ c ∈ ds, ¬ c < 0 ∧ ¬ (255 : Int32) < c) → (cs.map fun c => c.toInt8.toInt32) = (ds.map fun c => c.toInt8.toInt32) → cs = ds
  | [], [], _, _, _ => rfl
  | [], _ :: _, _, _, h => by simp at h
  | _ :: _, [], _, _, h => by simp at h
  | c :: cs, d :: ds, h1, h2, h => by
    simp only [List.map_cons, List.cons.injEq] at h
    rw [lo8_one (h1 c List.mem_cons_self) (h2 d List.mem_cons_self) h.1, lo8_list cs ds (fun x hx => h1 x (List.mem_cons_of_mem _ hx)) (fun x hx => h2 x (List.mem_cons_of_mem _ hx)) h.2]
theorem Str.uniq {Z : State} {h : Heap} {a : Addr} {cs ds : List Int32} (F : Str Z h a cs) (G : Str Z h a ds) : cs = ds := by
  obtain ⟨t, kb, cd, N2, vs, f1, f2, f3, ⟨c1, A1, -, A3, A4, A5, -⟩, f5, f6, f7⟩ := F
  obtain ⟨t', kb', cd', N2', vs', g1, g2, g3, ⟨c2, B1, -, B3, B4, B5, -⟩, g5, g6, g7⟩ := G
  cases fld_uniq f2 g2
  cases A1.1.symm.trans B1.1
  rcases f5 with ⟨-, rfl, rfl, hb⟩ | z
  · rcases g5 with ⟨-, rfl, rfl, hb'⟩ | z
    · have l1 : cs.length < 2 ^ 31 := by omega
      have l2 : ds.length < 2 ^ 31 := by omega
      have e1 : (Int32.ofNat cs.length).toNatClampNeg = cs.length := by show (Int32.ofNat cs.length).toInt.toNat = _; rw [Int32.toInt_ofNat_small l1]; simp
      have e2 : (Int32.ofNat ds.length).toNatClampNeg = ds.length := by show (Int32.ofNat ds.length).toInt.toNat = _; rw [Int32.toInt_ofNat_small l2]; simp
      rw [e1] at A3; rw [e2] at B3
      refine lo8_list cs ds (fun c hc => ⟨(f6 c hc).1, hb c hc⟩) (fun c hc => ⟨(g6 c hc).1, hb' c hc⟩) ?_
      refine List.ext_getElem (by simp; omega) fun j j1 j2 => ?_
      simp only [List.length_map] at j1 j2
      have z := (A5 j (by omega)).symm.trans (B5 j (by omega))
      simpa [List.getD_eq_getElem?_getD, j1, j2] using z
    · exact z.elim
  · exact z.elim
end Jvm.Pilot.@@N@@.W
namespace Jvm.Pilot.@@N@@
open Jvm Jvm.ClassFile Sem Op Lib Jvm.Free Jvm.Stand Jvm.LawKit Jvm.RoadKit Bundle Jvm.Pilot.@@N@@.W Jvm.Pilot.@@N@@.Jvm.D
theorem d3_0 : decode jdk_43_method_3_code 0 = .ok (.iload_n 0, 1) := by decide +kernel
theorem d3_1 : decode jdk_43_method_3_code 1 = .ok (.sipush 255, 3) := by decide +kernel
theorem d3_4 : decode jdk_43_method_3_code 4 = .ok (.if_icmp .gt 7, 3) := by decide +kernel
theorem d3_7 : decode jdk_43_method_3_code 7 = .ok (.iconst 1, 1) := by decide +kernel
theorem d3_8 : decode jdk_43_method_3_code 8 = .ok (.goto 4, 3) := by decide +kernel
theorem d3_12 : decode jdk_43_method_3_code 12 = .ok (.ireturn, 1) := by decide +kernel
theorem d4_0 : decode jdk_43_method_46_code 0 = .ok (.iconst 1, 1) := by decide +kernel
theorem d4_1 : decode jdk_43_method_46_code 1 = .ok (.newarray .byte, 2) := by decide +kernel
theorem d4_3 : decode jdk_43_method_46_code 3 = .ok (.dup, 1) := by decide +kernel
theorem d4_4 : decode jdk_43_method_46_code 4 = .ok (.iconst 0, 1) := by decide +kernel
theorem d4_5 : decode jdk_43_method_46_code 5 = .ok (.iload_n 0, 1) := by decide +kernel
theorem d4_6 : decode jdk_43_method_46_code 6 = .ok (.i2b, 1) := by decide +kernel
theorem d4_7 : decode jdk_43_method_46_code 7 = .ok (.bastore, 1) := by decide +kernel
theorem d4_8 : decode jdk_43_method_46_code 8 = .ok (.areturn, 1) := by decide +kernel
theorem d5_0 : decode jdk_42_method_151_code 0 = .ok (.aload_n 0, 1) := by decide +kernel
theorem d5_1 : decode jdk_42_method_151_code 1 = .ok (.invokespecial 1, 3) := by decide +kernel
theorem d5_4 : decode jdk_42_method_151_code 4 = .ok (.aload_n 0, 1) := by decide +kernel
theorem d5_5 : decode jdk_42_method_151_code 5 = .ok (.aload_n 1, 1) := by decide +kernel
theorem d5_6 : decode jdk_42_method_151_code 6 = .ok (.putfield 9, 3) := by decide +kernel
theorem d5_9 : decode jdk_42_method_151_code 9 = .ok (.aload_n 0, 1) := by decide +kernel
theorem d5_10 : decode jdk_42_method_151_code 10 = .ok (.iload_n 2, 1) := by decide +kernel
theorem d5_11 : decode jdk_42_method_151_code 11 = .ok (.putfield 15, 3) := by decide +kernel
theorem d5_14 : decode jdk_42_method_151_code 14 = .ok (.return_, 1) := by decide +kernel
theorem d2_0 : decode jdk_42_method_139_code 0 = .ok (.getstatic 38, 3) := by decide +kernel
theorem d2_3 : decode jdk_42_method_139_code 3 = .ok (.ifCond .eq 23, 3) := by decide +kernel
theorem d2_6 : decode jdk_42_method_139_code 6 = .ok (.iload_n 0, 1) := by decide +kernel
theorem d2_7 : decode jdk_42_method_139_code 7 = .ok (.invokestatic 1015, 3) := by decide +kernel
theorem d2_10 : decode jdk_42_method_139_code 10 = .ok (.ifCond .eq 16, 3) := by decide +kernel
theorem d2_13 : decode jdk_42_method_139_code 13 = .ok (.new 10, 3) := by decide +kernel
theorem d2_16 : decode jdk_42_method_139_code 16 = .ok (.dup, 1) := by decide +kernel
theorem d2_17 : decode jdk_42_method_139_code 17 = .ok (.iload_n 0, 1) := by decide +kernel
theorem d2_18 : decode jdk_42_method_139_code 18 = .ok (.invokestatic 1018, 3) := by decide +kernel
theorem d2_21 : decode jdk_42_method_139_code 21 = .ok (.iconst 0, 1) := by decide +kernel
theorem d2_22 : decode jdk_42_method_139_code 22 = .ok (.invokespecial 209, 3) := by decide +kernel
theorem d2_25 : decode jdk_42_method_139_code 25 = .ok (.areturn, 1) := by decide +kernel
theorem d12_0 : decode jdk_42_method_149_code 0 = .ok (.aload_n 0, 1) := by decide +kernel
theorem d12_1 : decode jdk_42_method_149_code 1 = .ok (.invokespecial 1, 3) := by decide +kernel
theorem d12_4 : decode jdk_42_method_149_code 4 = .ok (.iload_n 3, 1) := by decide +kernel
theorem d12_5 : decode jdk_42_method_149_code 5 = .ok (.ifCond .ne 22, 3) := by decide +kernel
theorem d12_8 : decode jdk_42_method_149_code 8 = .ok (.aload_n 0, 1) := by decide +kernel
theorem d12_9 : decode jdk_42_method_149_code 9 = .ok (.ldc 7, 2) := by decide +kernel
theorem d12_11 : decode jdk_42_method_149_code 11 = .ok (.getfield 9, 3) := by decide +kernel
theorem d12_14 : decode jdk_42_method_149_code 14 = .ok (.putfield 9, 3) := by decide +kernel
theorem d12_17 : decode jdk_42_method_149_code 17 = .ok (.aload_n 0, 1) := by decide +kernel
theorem d12_18 : decode jdk_42_method_149_code 18 = .ok (.ldc 7, 2) := by decide +kernel
theorem d12_20 : decode jdk_42_method_149_code 20 = .ok (.getfield 15, 3) := by decide +kernel
theorem d12_23 : decode jdk_42_method_149_code 23 = .ok (.putfield 15, 3) := by decide +kernel
theorem d12_26 : decode jdk_42_method_149_code 26 = .ok (.return_, 1) := by decide +kernel
theorem d11_0 : decode jdk_42_method_3_code 0 = .ok (.aload_n 0, 1) := by decide +kernel
theorem d11_1 : decode jdk_42_method_3_code 1 = .ok (.aload_n 1, 1) := by decide +kernel
theorem d11_2 : decode jdk_42_method_3_code 2 = .ok (.iconst 0, 1) := by decide +kernel
theorem d11_3 : decode jdk_42_method_3_code 3 = .ok (.aload_n 1, 1) := by decide +kernel
theorem d11_4 : decode jdk_42_method_3_code 4 = .ok (.arraylength, 1) := by decide +kernel
theorem d11_5 : decode jdk_42_method_3_code 5 = .ok (.aconst_null, 1) := by decide +kernel
theorem d11_6 : decode jdk_42_method_3_code 6 = .ok (.invokespecial 27, 3) := by decide +kernel
theorem d11_9 : decode jdk_42_method_3_code 9 = .ok (.return_, 1) := by decide +kernel
theorem d20_0 : decode jdk_43_method_13_code 0 = .ok (.aload_n 0, 1) := by decide +kernel
theorem d20_1 : decode jdk_43_method_13_code 1 = .ok (.arraylength, 1) := by decide +kernel
theorem d20_2 : decode jdk_43_method_13_code 2 = .ok (.aload_n 1, 1) := by decide +kernel
theorem d20_3 : decode jdk_43_method_13_code 3 = .ok (.arraylength, 1) := by decide +kernel
theorem d20_4 : decode jdk_43_method_13_code 4 = .ok (.if_icmp .ne 30, 3) := by decide +kernel
theorem d20_7 : decode jdk_43_method_13_code 7 = .ok (.iconst 0, 1) := by decide +kernel
theorem d20_8 : decode jdk_43_method_13_code 8 = .ok (.istore_n 2, 1) := by decide +kernel
theorem d20_9 : decode jdk_43_method_13_code 9 = .ok (.iload_n 2, 1) := by decide +kernel
theorem d20_10 : decode jdk_43_method_13_code 10 = .ok (.aload_n 0, 1) := by decide +kernel
theorem d20_11 : decode jdk_43_method_13_code 11 = .ok (.arraylength, 1) := by decide +kernel
theorem d20_12 : decode jdk_43_method_13_code 12 = .ok (.if_icmp .ge 20, 3) := by decide +kernel
theorem d20_32 : decode jdk_43_method_13_code 32 = .ok (.iconst 1, 1) := by decide +kernel
theorem d20_33 : decode jdk_43_method_13_code 33 = .ok (.ireturn, 1) := by decide +kernel
theorem d20_34 : decode jdk_43_method_13_code 34 = .ok (.iconst 0, 1) := by decide +kernel
theorem d20_35 : decode jdk_43_method_13_code 35 = .ok (.ireturn, 1) := by decide +kernel
theorem d20_15 : decode jdk_43_method_13_code 15 = .ok (.aload_n 0, 1) := by decide +kernel
theorem d20_16 : decode jdk_43_method_13_code 16 = .ok (.iload_n 2, 1) := by decide +kernel
theorem d20_17 : decode jdk_43_method_13_code 17 = .ok (.baload, 1) := by decide +kernel
theorem d20_18 : decode jdk_43_method_13_code 18 = .ok (.aload_n 1, 1) := by decide +kernel
theorem d20_19 : decode jdk_43_method_13_code 19 = .ok (.iload_n 2, 1) := by decide +kernel
theorem d20_20 : decode jdk_43_method_13_code 20 = .ok (.baload, 1) := by decide +kernel
theorem d20_21 : decode jdk_43_method_13_code 21 = .ok (.if_icmp .eq 5, 3) := by decide +kernel
theorem d20_26 : decode jdk_43_method_13_code 26 = .ok (.iinc 2 1, 3) := by decide +kernel
theorem d20_29 : decode jdk_43_method_13_code 29 = .ok (.goto (-20), 3) := by decide +kernel
theorem d20_24 : decode jdk_43_method_13_code 24 = .ok (.iconst 0, 1) := by decide +kernel
theorem d20_25 : decode jdk_43_method_13_code 25 = .ok (.ireturn, 1) := by decide +kernel
theorem d19_0 : decode jdk_42_method_66_code 0 = .ok (.aload_n 0, 1) := by decide +kernel
theorem d19_1 : decode jdk_42_method_66_code 1 = .ok (.aload_n 1, 1) := by decide +kernel
theorem d19_2 : decode jdk_42_method_66_code 2 = .ok (.if_acmp .ne 5, 3) := by decide +kernel
theorem d19_5 : decode jdk_42_method_66_code 5 = .ok (.iconst 1, 1) := by decide +kernel
theorem d19_6 : decode jdk_42_method_66_code 6 = .ok (.ireturn, 1) := by decide +kernel
theorem d19_7 : decode jdk_42_method_66_code 7 = .ok (.aload_n 1, 1) := by decide +kernel
theorem d19_8 : decode jdk_42_method_66_code 8 = .ok (.instanceof 10, 3) := by decide +kernel
theorem d19_11 : decode jdk_42_method_66_code 11 = .ok (.ifCond .eq 43, 3) := by decide +kernel
theorem d19_14 : decode jdk_42_method_66_code 14 = .ok (.aload_n 1, 1) := by decide +kernel
theorem d19_15 : decode jdk_42_method_66_code 15 = .ok (.checkcast 10, 3) := by decide +kernel
theorem d19_18 : decode jdk_42_method_66_code 18 = .ok (.astore_n 2, 1) := by decide +kernel
theorem d19_19 : decode jdk_42_method_66_code 19 = .ok (.getstatic 38, 3) := by decide +kernel
theorem d19_22 : decode jdk_42_method_66_code 22 = .ok (.ifCond .eq 14, 3) := by decide +kernel
theorem d19_25 : decode jdk_42_method_66_code 25 = .ok (.aload_n 0, 1) := by decide +kernel
theorem d19_26 : decode jdk_42_method_66_code 26 = .ok (.getfield 15, 3) := by decide +kernel
theorem d19_29 : decode jdk_42_method_66_code 29 = .ok (.aload_n 2, 1) := by decide +kernel
theorem d19_30 : decode jdk_42_method_66_code 30 = .ok (.getfield 15, 3) := by decide +kernel
theorem d19_33 : decode jdk_42_method_66_code 33 = .ok (.if_icmp .ne 21, 3) := by decide +kernel
theorem d19_36 : decode jdk_42_method_66_code 36 = .ok (.aload_n 0, 1) := by decide +kernel
theorem d19_37 : decode jdk_42_method_66_code 37 = .ok (.getfield 9, 3) := by decide +kernel
theorem d19_40 : decode jdk_42_method_66_code 40 = .ok (.aload_n 2, 1) := by decide +kernel
theorem d19_41 : decode jdk_42_method_66_code 41 = .ok (.getfield 9, 3) := by decide +kernel
theorem d19_44 : decode jdk_42_method_66_code 44 = .ok (.invokestatic 541, 3) := by decide +kernel
theorem d19_47 : decode jdk_42_method_66_code 47 = .ok (.ifCond .eq 7, 3) := by decide +kernel
theorem d19_50 : decode jdk_42_method_66_code 50 = .ok (.iconst 1, 1) := by decide +kernel
theorem d19_51 : decode jdk_42_method_66_code 51 = .ok (.goto 4, 3) := by decide +kernel
theorem d19_55 : decode jdk_42_method_66_code 55 = .ok (.ireturn, 1) := by decide +kernel
theorem d19_54 : decode jdk_42_method_66_code 54 = .ok (.iconst 0, 1) := by decide +kernel
theorem d10_0 : decode method_2_code 0 = .ok (.iload_n 0, 1) := by decide +kernel
theorem d10_1 : decode method_2_code 1 = .ok (.ifCond .ne 14, 3) := by decide +kernel
theorem d10_15 : decode method_2_code 15 = .ok (.iload_n 1, 1) := by decide +kernel
theorem d10_16 : decode method_2_code 16 = .ok (.i2c, 1) := by decide +kernel
theorem d10_17 : decode method_2_code 17 = .ok (.invokestatic 12, 3) := by decide +kernel
theorem d10_20 : decode method_2_code 20 = .ok (.areturn, 1) := by decide +kernel
theorem d10_4 : decode method_2_code 4 = .ok (.new 7, 3) := by decide +kernel
theorem d10_7 : decode method_2_code 7 = .ok (.dup, 1) := by decide +kernel
theorem d10_8 : decode method_2_code 8 = .ok (.iconst 0, 1) := by decide +kernel
theorem d10_9 : decode method_2_code 9 = .ok (.newarray .char, 2) := by decide +kernel
theorem d10_11 : decode method_2_code 11 = .ok (.invokespecial 9, 3) := by decide +kernel
theorem d10_14 : decode method_2_code 14 = .ok (.areturn, 1) := by decide +kernel
theorem d17_0 : decode method_3_code 0 = .ok (.iload_n 0, 1) := by decide +kernel
theorem d17_1 : decode method_3_code 1 = .ok (.bipush 9, 2) := by decide +kernel
theorem d17_3 : decode method_3_code 3 = .ok (.iushr, 1) := by decide +kernel
theorem d17_4 : decode method_3_code 4 = .ok (.iconst 3, 1) := by decide +kernel
theorem d17_5 : decode method_3_code 5 = .ok (.iand, 1) := by decide +kernel
theorem d17_6 : decode method_3_code 6 = .ok (.iconst 2, 1) := by decide +kernel
theorem d17_7 : decode method_3_code 7 = .ok (.if_icmp .lt 7, 3) := by decide +kernel
theorem d17_14 : decode method_3_code 14 = .ok (.iconst 0, 1) := by decide +kernel
theorem d17_15 : decode method_3_code 15 = .ok (.ireturn, 1) := by decide +kernel
theorem d17_10 : decode method_3_code 10 = .ok (.iconst 1, 1) := by decide +kernel
theorem d17_11 : decode method_3_code 11 = .ok (.goto 4, 3) := by decide +kernel
theorem d18_0 : decode method_4_code 0 = .ok (.iload_n 0, 1) := by decide +kernel
theorem d18_1 : decode method_4_code 1 = .ok (.iload_n 2, 1) := by decide +kernel
theorem d18_2 : decode method_4_code 2 = .ok (.if_icmp .ne 16, 3) := by decide +kernel
theorem d18_18 : decode method_4_code 18 = .ok (.iconst 0, 1) := by decide +kernel
theorem d18_19 : decode method_4_code 19 = .ok (.ireturn, 1) := by decide +kernel
theorem d18_5 : decode method_4_code 5 = .ok (.iload_n 0, 1) := by decide +kernel
theorem d18_6 : decode method_4_code 6 = .ok (.ifCond .eq 8, 3) := by decide +kernel
theorem d18_14 : decode method_4_code 14 = .ok (.iconst 1, 1) := by decide +kernel
theorem d18_15 : decode method_4_code 15 = .ok (.goto 4, 3) := by decide +kernel
theorem d18_9 : decode method_4_code 9 = .ok (.iload_n 1, 1) := by decide +kernel
theorem d18_10 : decode method_4_code 10 = .ok (.iload_n 3, 1) := by decide +kernel
theorem d18_11 : decode method_4_code 11 = .ok (.if_icmp .ne 7, 3) := by decide +kernel
theorem d8_0 : decode jdk_31_method_11_code 0 = .ok (.aload_n 0, 1) := by decide +kernel
theorem d8_1 : decode jdk_31_method_11_code 1 = .ok (.ifnonnull 12, 3) := by decide +kernel
theorem d8_13 : decode jdk_31_method_11_code 13 = .ok (.aload_n 0, 1) := by decide +kernel
theorem d8_14 : decode jdk_31_method_11_code 14 = .ok (.areturn, 1) := by decide +kernel
theorem d7_0 : decode prog_17_method_1_code 0 = .ok (.aload_n 0, 1) := by decide +kernel
theorem d7_1 : decode prog_17_method_1_code 1 = .ok (.invokespecial 1, 3) := by decide +kernel
theorem d7_4 : decode prog_17_method_1_code 4 = .ok (.aload_n 0, 1) := by decide +kernel
theorem d7_5 : decode prog_17_method_1_code 5 = .ok (.aload_n 1, 1) := by decide +kernel
theorem d7_6 : decode prog_17_method_1_code 6 = .ok (.ldc 7, 2) := by decide +kernel
theorem d7_8 : decode prog_17_method_1_code 8 = .ok (.invokestatic 9, 3) := by decide +kernel
theorem d7_11 : decode prog_17_method_1_code 11 = .ok (.checkcast 15, 3) := by decide +kernel
theorem d7_14 : decode prog_17_method_1_code 14 = .ok (.putfield 17, 3) := by decide +kernel
theorem d7_17 : decode prog_17_method_1_code 17 = .ok (.aload_n 0, 1) := by decide +kernel
theorem d7_18 : decode prog_17_method_1_code 18 = .ok (.aload_n 2, 1) := by decide +kernel
theorem d7_19 : decode prog_17_method_1_code 19 = .ok (.putfield 22, 3) := by decide +kernel
theorem d7_22 : decode prog_17_method_1_code 22 = .ok (.return_, 1) := by decide +kernel
theorem d1_0 : decode method_6_code 0 = .ok (.aconst_null, 1) := by decide +kernel
theorem d1_1 : decode method_6_code 1 = .ok (.astore_n 2, 1) := by decide +kernel
theorem d1_2 : decode method_6_code 2 = .ok (.iload_n 0, 1) := by decide +kernel
theorem d1_3 : decode method_6_code 3 = .ok (.bipush 9, 2) := by decide +kernel
theorem d1_5 : decode method_6_code 5 = .ok (.iushr, 1) := by decide +kernel
theorem d1_6 : decode method_6_code 6 = .ok (.iconst 3, 1) := by decide +kernel
theorem d1_7 : decode method_6_code 7 = .ok (.iand, 1) := by decide +kernel
theorem d1_8 : decode method_6_code 8 = .ok (.ifCond .eq 19, 3) := by decide +kernel
theorem d1_27 : decode method_6_code 27 = .ok (.new 41, 3) := by decide +kernel
theorem d1_30 : decode method_6_code 30 = .ok (.dup, 1) := by decide +kernel
theorem d1_31 : decode method_6_code 31 = .ok (.iload_n 1, 1) := by decide +kernel
theorem d1_32 : decode method_6_code 32 = .ok (.i2c, 1) := by decide +kernel
theorem d1_33 : decode method_6_code 33 = .ok (.invokestatic 12, 3) := by decide +kernel
theorem d1_36 : decode method_6_code 36 = .ok (.aload_n 2, 1) := by decide +kernel
theorem d1_37 : decode method_6_code 37 = .ok (.invokespecial 43, 3) := by decide +kernel
theorem d1_40 : decode method_6_code 40 = .ok (.areturn, 1) := by decide +kernel
theorem d1_11 : decode method_6_code 11 = .ok (.iload_n 0, 1) := by decide +kernel
theorem d1_12 : decode method_6_code 12 = .ok (.invokestatic 31, 3) := by decide +kernel
theorem d1_15 : decode method_6_code 15 = .ok (.iload_n 0, 1) := by decide +kernel
theorem d1_16 : decode method_6_code 16 = .ok (.bipush 11, 2) := by decide +kernel
theorem d1_18 : decode method_6_code 18 = .ok (.iushr, 1) := by decide +kernel
theorem d1_19 : decode method_6_code 19 = .ok (.sipush 255, 3) := by decide +kernel
theorem d1_22 : decode method_6_code 22 = .ok (.iand, 1) := by decide +kernel
theorem d1_23 : decode method_6_code 23 = .ok (.invokestatic 37, 3) := by decide +kernel
theorem d1_26 : decode method_6_code 26 = .ok (.astore_n 2, 1) := by decide +kernel
theorem d13_0 : decode method_5_code 0 = .ok (.iload_n 0, 1) := by decide +kernel
theorem d13_1 : decode method_5_code 1 = .ok (.ifCond .ne 7, 3) := by decide +kernel
theorem d13_8 : decode method_5_code 8 = .ok (.iload_n 0, 1) := by decide +kernel
theorem d13_9 : decode method_5_code 9 = .ok (.iconst 1, 1) := by decide +kernel
theorem d13_10 : decode method_5_code 10 = .ok (.if_icmp .ne 7, 3) := by decide +kernel
theorem d13_17 : decode method_5_code 17 = .ok (.iload_n 0, 1) := by decide +kernel
theorem d13_18 : decode method_5_code 18 = .ok (.iconst 2, 1) := by decide +kernel
theorem d13_19 : decode method_5_code 19 = .ok (.if_icmp .ne 7, 3) := by decide +kernel
theorem d13_26 : decode method_5_code 26 = .ok (.getstatic 28, 3) := by decide +kernel
theorem d13_29 : decode method_5_code 29 = .ok (.areturn, 1) := by decide +kernel
theorem d13_22 : decode method_5_code 22 = .ok (.getstatic 25, 3) := by decide +kernel
theorem d13_25 : decode method_5_code 25 = .ok (.areturn, 1) := by decide +kernel
theorem d13_13 : decode method_5_code 13 = .ok (.getstatic 22, 3) := by decide +kernel
theorem d13_16 : decode method_5_code 16 = .ok (.areturn, 1) := by decide +kernel
theorem d13_4 : decode method_5_code 4 = .ok (.getstatic 16, 3) := by decide +kernel
theorem d13_7 : decode method_5_code 7 = .ok (.areturn, 1) := by decide +kernel
theorem d15_0 : decode prog_17_method_3_code 0 = .ok (.aload_n 0, 1) := by decide +kernel
theorem d15_1 : decode prog_17_method_3_code 1 = .ok (.getfield 22, 3) := by decide +kernel
theorem d15_4 : decode prog_17_method_3_code 4 = .ok (.areturn, 1) := by decide +kernel
theorem d14_0 : decode prog_22_method_1_code 0 = .ok (.aload_n 0, 1) := by decide +kernel
theorem d14_1 : decode prog_22_method_1_code 1 = .ok (.invokespecial 1, 3) := by decide +kernel
theorem d14_4 : decode prog_22_method_1_code 4 = .ok (.aload_n 0, 1) := by decide +kernel
theorem d14_5 : decode prog_22_method_1_code 5 = .ok (.aload_n 1, 1) := by decide +kernel
theorem d14_6 : decode prog_22_method_1_code 6 = .ok (.putfield 7, 3) := by decide +kernel
theorem d14_9 : decode prog_22_method_1_code 9 = .ok (.aload_n 0, 1) := by decide +kernel
theorem d14_10 : decode prog_22_method_1_code 10 = .ok (.aload_n 2, 1) := by decide +kernel
theorem d14_11 : decode prog_22_method_1_code 11 = .ok (.invokevirtual 13, 3) := by decide +kernel
theorem d14_14 : decode prog_22_method_1_code 14 = .ok (.ifnonnull 8, 3) := by decide +kernel
theorem d14_17 : decode prog_22_method_1_code 17 = .ok (.ldc 19, 2) := by decide +kernel
theorem d14_19 : decode prog_22_method_1_code 19 = .ok (.goto 7, 3) := by decide +kernel
theorem d14_26 : decode prog_22_method_1_code 26 = .ok (.putfield 21, 3) := by decide +kernel
theorem d14_29 : decode prog_22_method_1_code 29 = .ok (.aload_n 0, 1) := by decide +kernel
theorem d14_30 : decode prog_22_method_1_code 30 = .ok (.aload_n 3, 1) := by decide +kernel
theorem d14_31 : decode prog_22_method_1_code 31 = .ok (.putfield 23, 3) := by decide +kernel
theorem d14_34 : decode prog_22_method_1_code 34 = .ok (.aload_n 0, 1) := by decide +kernel
theorem d14_35 : decode prog_22_method_1_code 35 = .ok (.aload 4, 2) := by decide +kernel
theorem d14_37 : decode prog_22_method_1_code 37 = .ok (.putfield 27, 3) := by decide +kernel
theorem d14_40 : decode prog_22_method_1_code 40 = .ok (.aload_n 0, 1) := by decide +kernel
theorem d14_41 : decode prog_22_method_1_code 41 = .ok (.aload_n 2, 1) := by decide +kernel
theorem d14_42 : decode prog_22_method_1_code 42 = .ok (.putfield 30, 3) := by decide +kernel
theorem d14_45 : decode prog_22_method_1_code 45 = .ok (.return_, 1) := by decide +kernel
theorem d14_22 : decode prog_22_method_1_code 22 = .ok (.aload_n 2, 1) := by decide +kernel
theorem d14_23 : decode prog_22_method_1_code 23 = .ok (.invokevirtual 13, 3) := by decide +kernel
theorem d9_0 : decode method_7_code 0 = .ok (.new 46, 3) := by decide +kernel
theorem d9_3 : decode method_7_code 3 = .ok (.dup, 1) := by decide +kernel
theorem d9_4 : decode method_7_code 4 = .ok (.iload_n 0, 1) := by decide +kernel
theorem d9_5 : decode method_7_code 5 = .ok (.iconst 1, 1) := by decide +kernel
theorem d9_6 : decode method_7_code 6 = .ok (.iand, 1) := by decide +kernel
theorem d9_7 : decode method_7_code 7 = .ok (.iload_n 0, 1) := by decide +kernel
theorem d9_8 : decode method_7_code 8 = .ok (.iconst 1, 1) := by decide +kernel
theorem d9_9 : decode method_7_code 9 = .ok (.iushr, 1) := by decide +kernel
theorem d9_10 : decode method_7_code 10 = .ok (.sipush 255, 3) := by decide +kernel
theorem d9_13 : decode method_7_code 13 = .ok (.iand, 1) := by decide +kernel
theorem d9_14 : decode method_7_code 14 = .ok (.invokestatic 37, 3) := by decide +kernel
theorem d9_17 : decode method_7_code 17 = .ok (.aload_n 1, 1) := by decide +kernel
theorem d9_18 : decode method_7_code 18 = .ok (.iload_n 0, 1) := by decide +kernel
theorem d9_19 : decode method_7_code 19 = .ok (.bipush 19, 2) := by decide +kernel
theorem d9_21 : decode method_7_code 21 = .ok (.iushr, 1) := by decide +kernel
theorem d9_22 : decode method_7_code 22 = .ok (.iconst 3, 1) := by decide +kernel
theorem d9_23 : decode method_7_code 23 = .ok (.iand, 1) := by decide +kernel
theorem d9_24 : decode method_7_code 24 = .ok (.invokestatic 48, 3) := by decide +kernel
theorem d9_27 : decode method_7_code 27 = .ok (.iload_n 0, 1) := by decide +kernel
theorem d9_28 : decode method_7_code 28 = .ok (.bipush 21, 2) := by decide +kernel
theorem d9_30 : decode method_7_code 30 = .ok (.iushr, 1) := by decide +kernel
theorem d9_31 : decode method_7_code 31 = .ok (.iconst 1, 1) := by decide +kernel
theorem d9_32 : decode method_7_code 32 = .ok (.iand, 1) := by decide +kernel
theorem d9_33 : decode method_7_code 33 = .ok (.iload_n 0, 1) := by decide +kernel
theorem d9_34 : decode method_7_code 34 = .ok (.bipush 22, 2) := by decide +kernel
theorem d9_36 : decode method_7_code 36 = .ok (.iushr, 1) := by decide +kernel
theorem d9_37 : decode method_7_code 37 = .ok (.sipush 255, 3) := by decide +kernel
theorem d9_40 : decode method_7_code 40 = .ok (.iand, 1) := by decide +kernel
theorem d9_41 : decode method_7_code 41 = .ok (.invokestatic 37, 3) := by decide +kernel
theorem d9_44 : decode method_7_code 44 = .ok (.invokespecial 52, 3) := by decide +kernel
theorem d9_47 : decode method_7_code 47 = .ok (.areturn, 1) := by decide +kernel
theorem d16_0 : decode prog_22_method_7_code 0 = .ok (.aload_n 1, 1) := by decide +kernel
theorem d16_1 : decode prog_22_method_7_code 1 = .ok (.instanceof 8, 3) := by decide +kernel
theorem d16_4 : decode prog_22_method_7_code 4 = .ok (.ifCond .ne 5, 3) := by decide +kernel
theorem d16_7 : decode prog_22_method_7_code 7 = .ok (.iconst 0, 1) := by decide +kernel
theorem d16_8 : decode prog_22_method_7_code 8 = .ok (.ireturn, 1) := by decide +kernel
theorem d16_9 : decode prog_22_method_7_code 9 = .ok (.aload_n 1, 1) := by decide +kernel
theorem d16_10 : decode prog_22_method_7_code 10 = .ok (.checkcast 8, 3) := by decide +kernel
theorem d16_13 : decode prog_22_method_7_code 13 = .ok (.astore_n 2, 1) := by decide +kernel
theorem d16_14 : decode prog_22_method_7_code 14 = .ok (.aload_n 0, 1) := by decide +kernel
theorem d16_15 : decode prog_22_method_7_code 15 = .ok (.getfield 7, 3) := by decide +kernel
theorem d16_18 : decode prog_22_method_7_code 18 = .ok (.aload_n 2, 1) := by decide +kernel
theorem d16_19 : decode prog_22_method_7_code 19 = .ok (.getfield 7, 3) := by decide +kernel
theorem d16_22 : decode prog_22_method_7_code 22 = .ok (.invokevirtual 34, 3) := by decide +kernel
theorem d16_25 : decode prog_22_method_7_code 25 = .ok (.ifCond .eq 46, 3) := by decide +kernel
theorem d16_28 : decode prog_22_method_7_code 28 = .ok (.aload_n 0, 1) := by decide +kernel
theorem d16_29 : decode prog_22_method_7_code 29 = .ok (.getfield 21, 3) := by decide +kernel
theorem d16_32 : decode prog_22_method_7_code 32 = .ok (.aload_n 2, 1) := by decide +kernel
theorem d16_33 : decode prog_22_method_7_code 33 = .ok (.getfield 21, 3) := by decide +kernel
theorem d16_36 : decode prog_22_method_7_code 36 = .ok (.invokevirtual 34, 3) := by decide +kernel
theorem d16_39 : decode prog_22_method_7_code 39 = .ok (.ifCond .eq 32, 3) := by decide +kernel
theorem d16_42 : decode prog_22_method_7_code 42 = .ok (.aload_n 0, 1) := by decide +kernel
theorem d16_43 : decode prog_22_method_7_code 43 = .ok (.getfield 23, 3) := by decide +kernel
theorem d16_46 : decode prog_22_method_7_code 46 = .ok (.aload_n 2, 1) := by decide +kernel
theorem d16_47 : decode prog_22_method_7_code 47 = .ok (.getfield 23, 3) := by decide +kernel
theorem d16_50 : decode prog_22_method_7_code 50 = .ok (.if_acmp .ne 21, 3) := by decide +kernel
theorem d16_53 : decode prog_22_method_7_code 53 = .ok (.aload_n 0, 1) := by decide +kernel
theorem d16_54 : decode prog_22_method_7_code 54 = .ok (.getfield 27, 3) := by decide +kernel
theorem d16_57 : decode prog_22_method_7_code 57 = .ok (.aload_n 2, 1) := by decide +kernel
theorem d16_58 : decode prog_22_method_7_code 58 = .ok (.getfield 27, 3) := by decide +kernel
theorem d16_61 : decode prog_22_method_7_code 61 = .ok (.invokevirtual 34, 3) := by decide +kernel
theorem d16_64 : decode prog_22_method_7_code 64 = .ok (.ifCond .eq 7, 3) := by decide +kernel
theorem d16_67 : decode prog_22_method_7_code 67 = .ok (.iconst 1, 1) := by decide +kernel
theorem d16_68 : decode prog_22_method_7_code 68 = .ok (.goto 4, 3) := by decide +kernel
theorem d16_72 : decode prog_22_method_7_code 72 = .ok (.ireturn, 1) := by decide +kernel
theorem d16_71 : decode prog_22_method_7_code 71 = .ok (.iconst 0, 1) := by decide +kernel
theorem pd0 : parseMethodDescriptor "(C)Z" = some ⟨[.char], some .boolean⟩ := by decide +kernel
theorem pd1 : parseMethodDescriptor "(C)[B" = some ⟨[.char], some (.array .byte)⟩ := by decide +kernel
theorem pd2 : parseMethodDescriptor "([BB)V" = some ⟨[(.array .byte), .byte], none⟩ := by decide +kernel
theorem pd3 : parseMethodDescriptor "([CIILjava/lang/Void;)V" = some ⟨[(.array .char), .int, .int, (.object "java/lang/Void")], none⟩ := by decide +kernel
theorem pd4 : parseMethodDescriptor "([B[B)Z" = some ⟨[(.array .byte), (.array .byte)], some .boolean⟩ := by decide +kernel
theorem pd5 : parseMethodDescriptor "(C)Ljava/lang/String;" = some ⟨[.char], some (.object "java/lang/String")⟩ := by decide +kernel
theorem pd6 : parseMethodDescriptor "([C)V" = some ⟨[(.array .char)], none⟩ := by decide +kernel
theorem pd7 : parseMethodDescriptor "(Ljava/lang/Object;Ljava/lang/String;)Ljava/lang/Object;" = some ⟨[(.object "java/lang/Object"), (.object "java/lang/String")], some (.object "java/lang/Object")⟩ := by decide +kernel
theorem pd8 : parseMethodDescriptor "(Ljava/lang/String;Ljava/lang/String;)V" = some ⟨[(.object "java/lang/String"), (.object "java/lang/String")], none⟩ := by decide +kernel
theorem pd9 : parseMethodDescriptor "(I)I" = some ⟨[.int], some .int⟩ := by decide +kernel
theorem pd10 : parseMethodDescriptor "(II)Ljava/lang/String;" = some ⟨[.int, .int], some (.object "java/lang/String")⟩ := by decide +kernel
theorem pd11 : parseMethodDescriptor "()Ljava/lang/String;" = some ⟨[], some (.object "java/lang/String")⟩ := by decide +kernel
theorem pd12 : parseMethodDescriptor "(I)Lcom/example/vestline/vestline/ocf/Finding$Kind;" = some ⟨[.int], some (.object "com/example/vestline/vestline/ocf/Finding$Kind")⟩ := by decide +kernel
theorem pd13 : parseMethodDescriptor "(Ljava/lang/String;Lcom/example/vestline/vestline/input/Location;Lcom/example/vestline/vestline/ocf/Finding$Kind;Ljava/lang/String;)V" = some ⟨[(.object "java/lang/String"), (.object "com/example/vestline/vestline/input/Location"), (.object "com/example/vestline/vestline/ocf/Finding$Kind"), (.object "java/lang/String")], none⟩ := by decide +kernel
theorem pd14 : parseMethodDescriptor "(Ljava/lang/Object;)Z" = some ⟨[(.object "java/lang/Object")], some .boolean⟩ := by decide +kernel
theorem pd15 : parseMethodDescriptor "(II)Lcom/example/vestline/vestline/input/Location;" = some ⟨[.int, .int], some (.object "com/example/vestline/vestline/input/Location")⟩ := by decide +kernel
theorem pd16 : parseMethodDescriptor "(ILcom/example/vestline/vestline/input/Location;)Lcom/example/vestline/vestline/ocf/Finding;" = some ⟨[.int, (.object "com/example/vestline/vestline/input/Location")], some (.object "com/example/vestline/vestline/ocf/Finding")⟩ := by decide +kernel
theorem pd17 : parseMethodDescriptor "(IIII)Z" = some ⟨[.int, .int, .int, .int], some .boolean⟩ := by decide +kernel
theorem pn0 : plainFor (⟨"java/lang/StringLatin1", "canEncode", "(C)Z"⟩ : MethodName) = true := plainFor_of_name (by first | (simp [plainName, overriddenIn]; done) | decide +kernel)
theorem pn1 : plainFor (⟨"java/lang/StringLatin1", "toBytes", "(C)[B"⟩ : MethodName) = true := plainFor_of_name (by first | (simp [plainName, overriddenIn]; done) | decide +kernel)
theorem pn2 : plainFor (⟨"java/lang/String", "<init>", "([BB)V"⟩ : MethodName) = true := plainFor_of_name (by first | (simp [plainName, overriddenIn]; done) | decide +kernel)
theorem pn3 : plainFor (⟨"java/lang/String", "valueOf", "(C)Ljava/lang/String;"⟩ : MethodName) = true := plainFor_of_name (by first | (simp [plainName, overriddenIn]; done) | decide +kernel)
theorem pn4 : plainFor (⟨"java/lang/String", "<init>", "([CIILjava/lang/Void;)V"⟩ : MethodName) = true := plainFor_of_name (by first | (simp [plainName, overriddenIn]; done) | decide +kernel)
theorem pn5 : plainFor (⟨"java/lang/String", "<init>", "([C)V"⟩ : MethodName) = true := plainFor_of_name (by first | (simp [plainName, overriddenIn]; done) | decide +kernel)
theorem pn6 : plainFor (⟨"java/lang/StringLatin1", "equals", "([B[B)Z"⟩ : MethodName) = true := plainFor_of_name (by first | (simp [plainName, overriddenIn]; done) | decide +kernel)
theorem pn7 : plainFor (⟨"java/lang/String", "equals", "(Ljava/lang/Object;)Z"⟩ : MethodName) = true := plainFor_of_name (by first | (simp [plainName, overriddenIn]; done) | decide +kernel)
theorem pn8 : plainFor (⟨"com/example/vestline/vestline/ocf/FindingEqualsPinLaw", "str", "(II)Ljava/lang/String;"⟩ : MethodName) = true := plainFor_of_name (by first | (simp [plainName, overriddenIn]; done) | decide +kernel)
theorem pn9 : plainFor (⟨"com/example/vestline/vestline/ocf/FindingEqualsPinLaw", "itemLen", "(I)I"⟩ : MethodName) = true := plainFor_of_name (by first | (simp [plainName, overriddenIn]; done) | decide +kernel)
theorem pn10 : plainFor (⟨"com/example/vestline/vestline/ocf/FindingEqualsPinLaw", "sameStr", "(IIII)Z"⟩ : MethodName) = true := plainFor_of_name (by first | (simp [plainName, overriddenIn]; done) | decide +kernel)
theorem pn11 : plainFor (⟨"java/util/Objects", "requireNonNull", "(Ljava/lang/Object;Ljava/lang/String;)Ljava/lang/Object;"⟩ : MethodName) = true := plainFor_of_name (by first | (simp [plainName, overriddenIn]; done) | decide +kernel)
theorem pn12 : plainFor (⟨"com/example/vestline/vestline/input/Location", "<init>", "(Ljava/lang/String;Ljava/lang/String;)V"⟩ : MethodName) = true := plainFor_of_name (by first | (simp [plainName, overriddenIn]; done) | decide +kernel)
theorem pn13 : plainFor (⟨"com/example/vestline/vestline/ocf/FindingEqualsPinLaw", "location", "(II)Lcom/example/vestline/vestline/input/Location;"⟩ : MethodName) = true := plainFor_of_name (by first | (simp [plainName, overriddenIn]; done) | decide +kernel)
theorem pn14 : plainFor (⟨"com/example/vestline/vestline/ocf/FindingEqualsPinLaw", "kind", "(I)Lcom/example/vestline/vestline/ocf/Finding$Kind;"⟩ : MethodName) = true := plainFor_of_name (by first | (simp [plainName, overriddenIn]; done) | decide +kernel)
theorem pn15 : plainFor (⟨"com/example/vestline/vestline/input/Location", "item", "()Ljava/lang/String;"⟩ : MethodName) = true := plainFor_of_name (by first | (simp [plainName, overriddenIn]; done) | decide +kernel)
theorem pn16 : plainFor (⟨"com/example/vestline/vestline/ocf/Finding", "<init>", "(Ljava/lang/String;Lcom/example/vestline/vestline/input/Location;Lcom/example/vestline/vestline/ocf/Finding$Kind;Ljava/lang/String;)V"⟩ : MethodName) = true := plainFor_of_name (by first | (simp [plainName, overriddenIn]; done) | decide +kernel)
theorem pn17 : plainFor (⟨"com/example/vestline/vestline/ocf/FindingEqualsPinLaw", "finding", "(ILcom/example/vestline/vestline/input/Location;)Lcom/example/vestline/vestline/ocf/Finding;"⟩ : MethodName) = true := plainFor_of_name (by first | (simp [plainName, overriddenIn]; done) | decide +kernel)
theorem pn18 : plainFor (⟨"com/example/vestline/vestline/ocf/Finding", "equals", "(Ljava/lang/Object;)Z"⟩ : MethodName) = true := plainFor_of_name (by first | (simp [plainName, overriddenIn]; done) | decide +kernel)
theorem pn19 : plainFor (⟨"com/example/vestline/vestline/ocf/FindingEqualsPinLaw", "law", "(III)Z"⟩ : MethodName) = true := plainFor_of_name (by first | (simp [plainName, overriddenIn]; done) | decide +kernel)
def own_s (n x : Int32) : List Int32 := if n = (0 : Int32) then [] else [x.toUInt32.toUInt16.toUInt32.toInt32]
def own_il (x : Int32) : Int32 := if (((x.toUInt32 >>> ((9 : Int32) &&& 31).toUInt32).toInt32) &&& (3 : Int32)) < (2 : Int32) then 0 else 1
def own_item (x : Int32) : List Int32 := own_s (own_il x) (((x.toUInt32 >>> ((11 : Int32) &&& 31).toUInt32).toInt32) &&& (255 : Int32))
def own_ss (n x k y : Int32) : Int32 := if n = k then (if n = (0 : Int32) then 1 else if x = y then 1 else 0) else 0
def own_kd (k0 k1 k2 k3 : Addr) (x : Int32) : Addr := if x = (0 : Int32) then k0 else if x = (1 : Int32) then k1 else if x = (2 : Int32) then k2 else k3
theorem own_item0 {x : Int32} (h : (((x.toUInt32 >>> ((9 : Int32) &&& 31).toUInt32).toInt32) &&& (3 : Int32)) = (0 : Int32)) : own_item x = [] := by
  unfold own_item own_il; rw [h]; rfl
theorem own_len (n x : Int32) : (own_s n x).length ≤ 1 := by unfold own_s; split <;> simp
theorem own_fin (x m : Int32) (n : Nat) (hm : m.toBitVec.toNat < n) : ∃ k : Fin n, x &&& m = Int32.ofNat k.val := by
  have h : (x &&& m).toBitVec.toNat < n := by
    simp only [Int32.toBitVec_and, BitVec.toNat_and]
    exact Nat.lt_of_le_of_lt Nat.and_le_right hm
  refine ⟨⟨_, h⟩, ?_⟩
  apply Int32.toBitVec_inj.mp
  show _ = BitVec.ofNat 32 _
  rw [BitVec.ofNat_toNat]; simp
theorem own_c8 (x : Int32) : ¬ ((x &&& (255 : Int32)).toUInt32.toUInt16.toUInt32.toInt32) < 0 ∧ ¬ (255 : Int32) < ((x &&& (255 : Int32)).toUInt32.toUInt16.toUInt32.toInt32) := by
  have t : ∀ k : Fin 256, ¬ ((Int32.ofNat k.val).toUInt32.toUInt16.toUInt32.toInt32) < 0 ∧ ¬ (255 : Int32) < ((Int32.ofNat k.val).toUInt32.toUInt16.toUInt32.toInt32) := by decide +kernel
  obtain ⟨k, e⟩ := own_fin x 255 256 (by decide)
  rw [e]; exact t k
theorem own_i2c (x : Int32) : (x &&& (255 : Int32)).toUInt32.toUInt16.toUInt32.toInt32 = x &&& (255 : Int32) := by
  have t : ∀ k : Fin 256, (Int32.ofNat k.val).toUInt32.toUInt16.toUInt32.toInt32 = Int32.ofNat k.val := by decide +kernel
  obtain ⟨k, e⟩ := own_fin x 255 256 (by decide)
  rw [e]; exact t k
theorem own_4 (x : Int32) : (x &&& (3 : Int32)) = 0 ∨ (x &&& (3 : Int32)) = 1 ∨ (x &&& (3 : Int32)) = 2 ∨ (x &&& (3 : Int32)) = 3 := by
  have t : ∀ k : Fin 4, Int32.ofNat k.val = 0 ∨ Int32.ofNat k.val = 1 ∨ Int32.ofNat k.val = 2 ∨ Int32.ofNat k.val = 3 := by decide +kernel
  obtain ⟨k, e⟩ := own_fin x 3 4 (by decide)
  rw [e]; exact t k
theorem own_kdi {x y : Int32} {k0 k1 k2 k3 : Addr} (hx : x = 0 ∨ x = 1 ∨ x = 2 ∨ x = 3) (hy : y = 0 ∨ y = 1 ∨ y = 2 ∨ y = 3) (d01 : k0 ≠ k1) (d02 : k0 ≠ k2) (d03 : k0 ≠ k3) (d12 : k1 ≠ k2) (d13 : k1 ≠ k3) (d23 : k2 ≠ k3) : own_kd k0 k1 k2 k3 x = own_kd k0 k1 k2 k3 y ↔ x = y := by
  rcases hx with rfl | rfl | rfl | rfl <;> rcases hy with rfl | rfl | rfl | rfl <;> simp [own_kd, d01, d02, d03, d12, d13, d23, d01.symm, d02.symm, d03.symm, d12.symm, d13.symm, d23.symm]
theorem own_sse (n x k y : Int32) (hn : n = 0 ∨ n = 1) (hk : k = 0 ∨ k = 1) : own_ss n (x &&& (255 : Int32)) k (y &&& (255 : Int32)) = if own_s n (x &&& (255 : Int32)) = own_s k (y &&& (255 : Int32)) then 1 else 0 := by
  unfold own_ss own_s
  rw [own_i2c, own_i2c]
  rcases hn with rfl | rfl <;> rcases hk with rfl | rfl <;> simp

theorem own_ss0 {n x k y : Int32} (hn : n = 0 ∨ n = 1) (hk : k = 0 ∨ k = 1) (h : own_ss n (x &&& (255 : Int32)) k (y &&& (255 : Int32)) = (0 : Int32)) : ¬ own_s n (x &&& (255 : Int32)) = own_s k (y &&& (255 : Int32)) := fun q => by
  rw [own_sse _ _ _ _ hn hk, if_pos q] at h; exact absurd h (by decide)
theorem own_ss1 {n x k y : Int32} (hn : n = 0 ∨ n = 1) (hk : k = 0 ∨ k = 1) (h : ¬ own_ss n (x &&& (255 : Int32)) k (y &&& (255 : Int32)) = (0 : Int32)) : own_s n (x &&& (255 : Int32)) = own_s k (y &&& (255 : Int32)) := by
  by_cases q : own_s n (x &&& (255 : Int32)) = own_s k (y &&& (255 : Int32))
  · exact q
  · rw [own_sse _ _ _ _ hn hk, if_neg q] at h; exact absurd rfl h
theorem own_2 (x : Int32) : (x &&& (1 : Int32)) = 0 ∨ (x &&& (1 : Int32)) = 1 := by
  have t : ∀ k : Fin 2, Int32.ofNat k.val = 0 ∨ Int32.ofNat k.val = 1 := by decide +kernel
  obtain ⟨k, e⟩ := own_fin x 1 2 (by decide)
  rw [e]; exact t k
theorem own_ilb (x : Int32) : own_il x = 0 ∨ own_il x = 1 := by unfold own_il; split <;> simp
theorem own_ext {Z : State} {h h' : Heap} {iv : Value} {cs : List Int32} (H : (iv = .null ∧ cs = []) ∨ ∃ i, iv = .ref i ∧ Str Z h i cs) (E : Ext h h') : (iv = .null ∧ cs = []) ∨ ∃ i, iv = .ref i ∧ Str Z h' i cs := H.imp id fun ⟨i, e, S⟩ => ⟨i, e, S.ext E⟩
theorem own_slots {Z : State} {a0 : Array Value} (hw : ∀ d ∈ tables_1, d.before a0 Z = true) : Jvm.RoadKit.slotOf Z "java/lang/String" "coder" "B" ≠ Jvm.RoadKit.slotOf Z "java/lang/String" "value" "[B" := slot_ne (C := "java/lang/String") (a0 := a0) (Or.inr (hw _ (List.mem_of_getElem? (i := 34) rfl))) (Or.inr (hw _ (List.mem_of_getElem? (i := 32) rfl))) (by decide) (t := .byte) (t' := .array .byte) (by decide) (by decide)
theorem own_nb (x : Int32) : nar .byte x.toInt8.toInt32 = x.toInt8.toInt32 := by simp [nar]
theorem own_atoms0 {Z : State} {a0 : Array Value} (hw : ∀ d ∈ tables_1, d.before a0 Z = true) : ∀ a ∈ Bundle.stringAtoms, a.before a0 Z = true := fun d hd => hw d ((by decide +kernel : ∀ d ∈ Bundle.stringAtoms, d ∈ tables_1) d hd)
theorem own_one {cs : List Int32} (h : cs.length ≤ 1) : (cs.map fun c => c.toInt8.toInt32) = [] ∨ ∃ x, (cs.map fun c => c.toInt8.toInt32) = [x] := by
  match cs, h with
  | [], _ => exact Or.inl rfl
  | [c], _ => exact Or.inr ⟨_, rfl⟩
def Fin1 (Z : State) (h : Heap) (f : Addr) (c1 c2 c3 : List Int32) (k : Addr) : Prop := Exa Z h f "com/example/vestline/vestline/ocf/Finding" ∧ ∃ s1 s2 s3 : Addr, Fld Z h f "com/example/vestline/vestline/ocf/Finding" "file" "Ljava/lang/String;" (.ref s1) ∧ Fld Z h f "com/example/vestline/vestline/ocf/Finding" "item" "Ljava/lang/String;" (.ref s2) ∧ Fld Z h f "com/example/vestline/vestline/ocf/Finding" "kind" "Lcom/example/vestline/vestline/ocf/Finding$Kind;" (.ref k) ∧ Fld Z h f "com/example/vestline/vestline/ocf/Finding" "detail" "Ljava/lang/String;" (.ref s3) ∧ Str Z h s1 c1 ∧ Str Z h s2 c2 ∧ Str Z h s3 c3
theorem Fin1.ext {Z : State} {h h' : Heap} {f : Addr} {c1 c2 c3 : List Int32} {k : Addr} (A : Fin1 Z h f c1 c2 c3 k) (E : Ext h h') : Fin1 Z h' f c1 c2 c3 k := by
  obtain ⟨a, s1, s2, s3, b1, b2, b3, b4, b5, b6, b7⟩ := A
  exact ⟨a.ext E, s1, s2, s3, b1.ext E, b2.ext E, b3.ext E, b4.ext E, b5.ext E, b6.ext E, b7.ext E⟩
theorem own_ls {Z : State} {a0 : Array Value} (hw : ∀ d ∈ tables_1, d.before a0 Z = true) : Jvm.RoadKit.slotOf Z "com/example/vestline/vestline/input/Location" "item" "Ljava/lang/String;" ≠ Jvm.RoadKit.slotOf Z "com/example/vestline/vestline/input/Location" "file" "Ljava/lang/String;" := slot_ne (C := "com/example/vestline/vestline/input/Location") (a0 := a0) (Or.inr (hw _ (List.mem_of_getElem? (i := 50) rfl))) (Or.inr (hw _ (List.mem_of_getElem? (i := 48) rfl))) (by decide) (t := .object "java/lang/String") (t' := .object "java/lang/String") (by decide) (by decide)
theorem own_fs01 {Z : State} {a0 : Array Value} (hw : ∀ d ∈ tables_1, d.before a0 Z = true) : Jvm.RoadKit.slotOf Z "com/example/vestline/vestline/ocf/Finding" "file" "Ljava/lang/String;" ≠ Jvm.RoadKit.slotOf Z "com/example/vestline/vestline/ocf/Finding" "item" "Ljava/lang/String;" := slot_ne (C := "com/example/vestline/vestline/ocf/Finding") (a0 := a0) (Or.inr (hw _ (List.mem_of_getElem? (i := 80) rfl))) (Or.inr (hw _ (List.mem_of_getElem? (i := 88) rfl))) (by decide) (t := .object "java/lang/String") (t' := .object "java/lang/String") (by decide) (by decide)
theorem own_fs02 {Z : State} {a0 : Array Value} (hw : ∀ d ∈ tables_1, d.before a0 Z = true) : Jvm.RoadKit.slotOf Z "com/example/vestline/vestline/ocf/Finding" "file" "Ljava/lang/String;" ≠ Jvm.RoadKit.slotOf Z "com/example/vestline/vestline/ocf/Finding" "kind" "Lcom/example/vestline/vestline/ocf/Finding$Kind;" := slot_ne (C := "com/example/vestline/vestline/ocf/Finding") (a0 := a0) (Or.inr (hw _ (List.mem_of_getElem? (i := 80) rfl))) (Or.inr (hw _ (List.mem_of_getElem? (i := 90) rfl))) (by decide) (t := .object "java/lang/String") (t' := .object "com/example/vestline/vestline/ocf/Finding$Kind") (by decide) (by decide)
theorem own_fs03 {Z : State} {a0 : Array Value} (hw : ∀ d ∈ tables_1, d.before a0 Z = true) : Jvm.RoadKit.slotOf Z "com/example/vestline/vestline/ocf/Finding" "file" "Ljava/lang/String;" ≠ Jvm.RoadKit.slotOf Z "com/example/vestline/vestline/ocf/Finding" "detail" "Ljava/lang/String;" := slot_ne (C := "com/example/vestline/vestline/ocf/Finding") (a0 := a0) (Or.inr (hw _ (List.mem_of_getElem? (i := 80) rfl))) (Or.inr (hw _ (List.mem_of_getElem? (i := 92) rfl))) (by decide) (t := .object "java/lang/String") (t' := .object "java/lang/String") (by decide) (by decide)
theorem own_fs04 {Z : State} {a0 : Array Value} (hw : ∀ d ∈ tables_1, d.before a0 Z = true) : Jvm.RoadKit.slotOf Z "com/example/vestline/vestline/ocf/Finding" "file" "Ljava/lang/String;" ≠ Jvm.RoadKit.slotOf Z "com/example/vestline/vestline/ocf/Finding" "location" "Lcom/example/vestline/vestline/input/Location;" := slot_ne (C := "com/example/vestline/vestline/ocf/Finding") (a0 := a0) (Or.inr (hw _ (List.mem_of_getElem? (i := 80) rfl))) (Or.inr (hw _ (List.mem_of_getElem? (i := 94) rfl))) (by decide) (t := .object "java/lang/String") (t' := .object "com/example/vestline/vestline/input/Location") (by decide) (by decide)
theorem own_fs10 {Z : State} {a0 : Array Value} (hw : ∀ d ∈ tables_1, d.before a0 Z = true) : Jvm.RoadKit.slotOf Z "com/example/vestline/vestline/ocf/Finding" "item" "Ljava/lang/String;" ≠ Jvm.RoadKit.slotOf Z "com/example/vestline/vestline/ocf/Finding" "file" "Ljava/lang/String;" := slot_ne (C := "com/example/vestline/vestline/ocf/Finding") (a0 := a0) (Or.inr (hw _ (List.mem_of_getElem? (i := 88) rfl))) (Or.inr (hw _ (List.mem_of_getElem? (i := 80) rfl))) (by decide) (t := .object "java/lang/String") (t' := .object "java/lang/String") (by decide) (by decide)
theorem own_fs12 {Z : State} {a0 : Array Value} (hw : ∀ d ∈ tables_1, d.before a0 Z = true) : Jvm.RoadKit.slotOf Z "com/example/vestline/vestline/ocf/Finding" "item" "Ljava/lang/String;" ≠ Jvm.RoadKit.slotOf Z "com/example/vestline/vestline/ocf/Finding" "kind" "Lcom/example/vestline/vestline/ocf/Finding$Kind;" := slot_ne (C := "com/example/vestline/vestline/ocf/Finding") (a0 := a0) (Or.inr (hw _ (List.mem_of_getElem? (i := 88) rfl))) (Or.inr (hw _ (List.mem_of_getElem? (i := 90) rfl))) (by decide) (t := .object "java/lang/String") (t' := .object "com/example/vestline/vestline/ocf/Finding$Kind") (by decide) (by decide)
theorem own_fs13 {Z : State} {a0 : Array Value} (hw : ∀ d ∈ tables_1, d.before a0 Z = true) : Jvm.RoadKit.slotOf Z "com/example/vestline/vestline/ocf/Finding" "item" "Ljava/lang/String;" ≠ Jvm.RoadKit.slotOf Z "com/example/vestline/vestline/ocf/Finding" "detail" "Ljava/lang/String;" := slot_ne (C := "com/example/vestline/vestline/ocf/Finding") (a0 := a0) (Or.inr (hw _ (List.mem_of_getElem? (i := 88) rfl))) (Or.inr (hw _ (List.mem_of_getElem? (i := 92) rfl))) (by decide) (t := .object "java/lang/String") (t' := .object "java/lang/String") (by decide) (by decide)
theorem own_fs14 {Z : State} {a0 : Array Value} (hw : ∀ d ∈ tables_1, d.before a0 Z = true) : Jvm.RoadKit.slotOf Z "com/example/vestline/vestline/ocf/Finding" "item" "Ljava/lang/String;" ≠ Jvm.RoadKit.slotOf Z "com/example/vestline/vestline/ocf/Finding" "location" "Lcom/example/vestline/vestline/input/Location;" := slot_ne (C := "com/example/vestline/vestline/ocf/Finding") (a0 := a0) (Or.inr (hw _ (List.mem_of_getElem? (i := 88) rfl))) (Or.inr (hw _ (List.mem_of_getElem? (i := 94) rfl))) (by decide) (t := .object "java/lang/String") (t' := .object "com/example/vestline/vestline/input/Location") (by decide) (by decide)
theorem own_fs20 {Z : State} {a0 : Array Value} (hw : ∀ d ∈ tables_1, d.before a0 Z = true) : Jvm.RoadKit.slotOf Z "com/example/vestline/vestline/ocf/Finding" "kind" "Lcom/example/vestline/vestline/ocf/Finding$Kind;" ≠ Jvm.RoadKit.slotOf Z "com/example/vestline/vestline/ocf/Finding" "file" "Ljava/lang/String;" := slot_ne (C := "com/example/vestline/vestline/ocf/Finding") (a0 := a0) (Or.inr (hw _ (List.mem_of_getElem? (i := 90) rfl))) (Or.inr (hw _ (List.mem_of_getElem? (i := 80) rfl))) (by decide) (t := .object "com/example/vestline/vestline/ocf/Finding$Kind") (t' := .object "java/lang/String") (by decide) (by decide)
theorem own_fs21 {Z : State} {a0 : Array Value} (hw : ∀ d ∈ tables_1, d.before a0 Z = true) : Jvm.RoadKit.slotOf Z "com/example/vestline/vestline/ocf/Finding" "kind" "Lcom/example/vestline/vestline/ocf/Finding$Kind;" ≠ Jvm.RoadKit.slotOf Z "com/example/vestline/vestline/ocf/Finding" "item" "Ljava/lang/String;" := slot_ne (C := "com/example/vestline/vestline/ocf/Finding") (a0 := a0) (Or.inr (hw _ (List.mem_of_getElem? (i := 90) rfl))) (Or.inr (hw _ (List.mem_of_getElem? (i := 88) rfl))) (by decide) (t := .object "com/example/vestline/vestline/ocf/Finding$Kind") (t' := .object "java/lang/String") (by decide) (by decide)
theorem own_fs23 {Z : State} {a0 : Array Value} (hw : ∀ d ∈ tables_1, d.before a0 Z = true) : Jvm.RoadKit.slotOf Z "com/example/vestline/vestline/ocf/Finding" "kind" "Lcom/example/vestline/vestline/ocf/Finding$Kind;" ≠ Jvm.RoadKit.slotOf Z "com/example/vestline/vestline/ocf/Finding" "detail" "Ljava/lang/String;" := slot_ne (C := "com/example/vestline/vestline/ocf/Finding") (a0 := a0) (Or.inr (hw _ (List.mem_of_getElem? (i := 90) rfl))) (Or.inr (hw _ (List.mem_of_getElem? (i := 92) rfl))) (by decide) (t := .object "com/example/vestline/vestline/ocf/Finding$Kind") (t' := .object "java/lang/String") (by decide) (by decide)
theorem own_fs24 {Z : State} {a0 : Array Value} (hw : ∀ d ∈ tables_1, d.before a0 Z = true) : Jvm.RoadKit.slotOf Z "com/example/vestline/vestline/ocf/Finding" "kind" "Lcom/example/vestline/vestline/ocf/Finding$Kind;" ≠ Jvm.RoadKit.slotOf Z "com/example/vestline/vestline/ocf/Finding" "location" "Lcom/example/vestline/vestline/input/Location;" := slot_ne (C := "com/example/vestline/vestline/ocf/Finding") (a0 := a0) (Or.inr (hw _ (List.mem_of_getElem? (i := 90) rfl))) (Or.inr (hw _ (List.mem_of_getElem? (i := 94) rfl))) (by decide) (t := .object "com/example/vestline/vestline/ocf/Finding$Kind") (t' := .object "com/example/vestline/vestline/input/Location") (by decide) (by decide)
theorem own_fs30 {Z : State} {a0 : Array Value} (hw : ∀ d ∈ tables_1, d.before a0 Z = true) : Jvm.RoadKit.slotOf Z "com/example/vestline/vestline/ocf/Finding" "detail" "Ljava/lang/String;" ≠ Jvm.RoadKit.slotOf Z "com/example/vestline/vestline/ocf/Finding" "file" "Ljava/lang/String;" := slot_ne (C := "com/example/vestline/vestline/ocf/Finding") (a0 := a0) (Or.inr (hw _ (List.mem_of_getElem? (i := 92) rfl))) (Or.inr (hw _ (List.mem_of_getElem? (i := 80) rfl))) (by decide) (t := .object "java/lang/String") (t' := .object "java/lang/String") (by decide) (by decide)
theorem own_fs31 {Z : State} {a0 : Array Value} (hw : ∀ d ∈ tables_1, d.before a0 Z = true) : Jvm.RoadKit.slotOf Z "com/example/vestline/vestline/ocf/Finding" "detail" "Ljava/lang/String;" ≠ Jvm.RoadKit.slotOf Z "com/example/vestline/vestline/ocf/Finding" "item" "Ljava/lang/String;" := slot_ne (C := "com/example/vestline/vestline/ocf/Finding") (a0 := a0) (Or.inr (hw _ (List.mem_of_getElem? (i := 92) rfl))) (Or.inr (hw _ (List.mem_of_getElem? (i := 88) rfl))) (by decide) (t := .object "java/lang/String") (t' := .object "java/lang/String") (by decide) (by decide)
theorem own_fs32 {Z : State} {a0 : Array Value} (hw : ∀ d ∈ tables_1, d.before a0 Z = true) : Jvm.RoadKit.slotOf Z "com/example/vestline/vestline/ocf/Finding" "detail" "Ljava/lang/String;" ≠ Jvm.RoadKit.slotOf Z "com/example/vestline/vestline/ocf/Finding" "kind" "Lcom/example/vestline/vestline/ocf/Finding$Kind;" := slot_ne (C := "com/example/vestline/vestline/ocf/Finding") (a0 := a0) (Or.inr (hw _ (List.mem_of_getElem? (i := 92) rfl))) (Or.inr (hw _ (List.mem_of_getElem? (i := 90) rfl))) (by decide) (t := .object "java/lang/String") (t' := .object "com/example/vestline/vestline/ocf/Finding$Kind") (by decide) (by decide)
theorem own_fs34 {Z : State} {a0 : Array Value} (hw : ∀ d ∈ tables_1, d.before a0 Z = true) : Jvm.RoadKit.slotOf Z "com/example/vestline/vestline/ocf/Finding" "detail" "Ljava/lang/String;" ≠ Jvm.RoadKit.slotOf Z "com/example/vestline/vestline/ocf/Finding" "location" "Lcom/example/vestline/vestline/input/Location;" := slot_ne (C := "com/example/vestline/vestline/ocf/Finding") (a0 := a0) (Or.inr (hw _ (List.mem_of_getElem? (i := 92) rfl))) (Or.inr (hw _ (List.mem_of_getElem? (i := 94) rfl))) (by decide) (t := .object "java/lang/String") (t' := .object "com/example/vestline/vestline/input/Location") (by decide) (by decide)
theorem own_fs40 {Z : State} {a0 : Array Value} (hw : ∀ d ∈ tables_1, d.before a0 Z = true) : Jvm.RoadKit.slotOf Z "com/example/vestline/vestline/ocf/Finding" "location" "Lcom/example/vestline/vestline/input/Location;" ≠ Jvm.RoadKit.slotOf Z "com/example/vestline/vestline/ocf/Finding" "file" "Ljava/lang/String;" := slot_ne (C := "com/example/vestline/vestline/ocf/Finding") (a0 := a0) (Or.inr (hw _ (List.mem_of_getElem? (i := 94) rfl))) (Or.inr (hw _ (List.mem_of_getElem? (i := 80) rfl))) (by decide) (t := .object "com/example/vestline/vestline/input/Location") (t' := .object "java/lang/String") (by decide) (by decide)
theorem own_fs41 {Z : State} {a0 : Array Value} (hw : ∀ d ∈ tables_1, d.before a0 Z = true) : Jvm.RoadKit.slotOf Z "com/example/vestline/vestline/ocf/Finding" "location" "Lcom/example/vestline/vestline/input/Location;" ≠ Jvm.RoadKit.slotOf Z "com/example/vestline/vestline/ocf/Finding" "item" "Ljava/lang/String;" := slot_ne (C := "com/example/vestline/vestline/ocf/Finding") (a0 := a0) (Or.inr (hw _ (List.mem_of_getElem? (i := 94) rfl))) (Or.inr (hw _ (List.mem_of_getElem? (i := 88) rfl))) (by decide) (t := .object "com/example/vestline/vestline/input/Location") (t' := .object "java/lang/String") (by decide) (by decide)
theorem own_fs42 {Z : State} {a0 : Array Value} (hw : ∀ d ∈ tables_1, d.before a0 Z = true) : Jvm.RoadKit.slotOf Z "com/example/vestline/vestline/ocf/Finding" "location" "Lcom/example/vestline/vestline/input/Location;" ≠ Jvm.RoadKit.slotOf Z "com/example/vestline/vestline/ocf/Finding" "kind" "Lcom/example/vestline/vestline/ocf/Finding$Kind;" := slot_ne (C := "com/example/vestline/vestline/ocf/Finding") (a0 := a0) (Or.inr (hw _ (List.mem_of_getElem? (i := 94) rfl))) (Or.inr (hw _ (List.mem_of_getElem? (i := 90) rfl))) (by decide) (t := .object "com/example/vestline/vestline/input/Location") (t' := .object "com/example/vestline/vestline/ocf/Finding$Kind") (by decide) (by decide)
theorem own_fs43 {Z : State} {a0 : Array Value} (hw : ∀ d ∈ tables_1, d.before a0 Z = true) : Jvm.RoadKit.slotOf Z "com/example/vestline/vestline/ocf/Finding" "location" "Lcom/example/vestline/vestline/input/Location;" ≠ Jvm.RoadKit.slotOf Z "com/example/vestline/vestline/ocf/Finding" "detail" "Ljava/lang/String;" := slot_ne (C := "com/example/vestline/vestline/ocf/Finding") (a0 := a0) (Or.inr (hw _ (List.mem_of_getElem? (i := 94) rfl))) (Or.inr (hw _ (List.mem_of_getElem? (i := 92) rfl))) (by decide) (t := .object "com/example/vestline/vestline/input/Location") (t' := .object "java/lang/String") (by decide) (by decide)
theorem own_no0 {Z : State} {a0 : Array Value} (hw : ∀ d ∈ tables_1, d.before a0 Z = true) : ∃ c t, Z.vm.findClass "com/example/vestline/vestline/input/Location" = some c ∧ Z.vm.findClass "com/example/vestline/vestline/ocf/Finding" = some t ∧ Z.vm.assignable c t = false := notsub (hw _ (List.mem_of_getElem? (i := 126) rfl)) (hw _ (List.mem_of_getElem? (i := 127) rfl)) (hw _ (List.mem_of_getElem? (i := 55) rfl)) (by decide) (by decide)
set_option maxRecDepth 65536 in
set_option maxHeartbeats 40000000 in
theorem c_can (l : Launch) (Z : State) (a0 : Array Value) (hw : ∀ d ∈ tables_1, d.before a0 Z = true) (xs : List Addr) (n0 : Nat) (h : Heap) (Z0 : n0 ≤ h.size) (x : Int32) (hx : ¬ (255 : Int32) < x) :
    Ctr l Z consts_1 xs n0 (⟨"java/lang/StringLatin1", "canEncode", "(C)Z"⟩ : MethodName) jdk_43_method_3_code 1 (some .boolean) [] ({ frames := 0, cells := 0, slots := 0, locals := 0 } : Room) #[(.int x)] h (fun v h' => v = some (.int 1) ∧ h = h') := by
  refine Ctr.body pn0 ?_
  intro p e s m below meth c K
  refine Go.entry (f' := (mkF m 0 #[.val (.int x)] [])) (by first | (simp [entryFrame, mkF, argsToLocals, Value.category]; done) | rfl) ?_
  refine Go.iloadN K (q := 1) rfl d3_0 rfl ?_
  refine Go.sipush K (q := 4) rfl (v := (255 : Int32)) (by decide) d3_1 ?_
  refine Go.icmpN K (q := 7) rfl d3_4 (show ¬ (255 : Int32) < x from hx) ?_
  refine Go.iconst K (q := 8) rfl (v := (1 : Int32)) (by decide) d3_7 ?_
  refine Go.goto K (q := 12) (by decide) (by decide) d3_8 ?_
  exact Go.retN K (by simp) d3_12 (by decide) (by decide) (fun _ q => q) (⟨rfl, rfl⟩)
set_option maxRecDepth 65536 in
set_option maxHeartbeats 40000000 in
theorem c_tob (l : Launch) (Z : State) (a0 : Array Value) (hw : ∀ d ∈ tables_1, d.before a0 Z = true) (xs : List Addr) (n0 : Nat) (h : Heap) (Z0 : n0 ≤ h.size) (x : Int32) :
    Ctr l Z consts_1 xs n0 (⟨"java/lang/StringLatin1", "toBytes", "(C)[B"⟩ : MethodName) jdk_43_method_46_code 1 (some (.array .byte)) [] ({ frames := 0, cells := 1, slots := 1, locals := 0 } : Room) #[(.int x)] h (fun v h' => ∃ (t : Addr) (k : ClassId), v = some (.ref t) ∧ Ext h h' ∧ h.size ≤ t ∧ Arv Z h' t k .byte (1 : Int32) [.int (nar .byte x.toInt8.toInt32)] (.int (0 : Int32))) := by
  refine Ctr.body pn1 ?_
  intro p e s m below meth c K
  refine Go.entry (f' := (mkF m 0 #[.val (.int x)] [])) (by first | (simp [entryFrame, mkF, argsToLocals, Value.category]; done) | rfl) ?_
  have E0 := Ext.refl h
  refine Go.iconst K (q := 1) rfl (v := (1 : Int32)) (by decide) d4_0 ?_
  refine Go.newarr K (q := 3) rfl (hw _ (List.mem_of_getElem? (i := 23) rfl)) d4_1 (by decide) (cap := 1) (by decide) (by decide) (cells' := 1) (slots' := 1) rfl rfl (by decide) (by decide) ?_
  intro h2 a1 k_a1 g_a1 N_a1 V_a1
  have V_a1 : Arv Z h2 a1 k_a1 .byte (1 : Int32) [(.int (0 : Int32))] (.int (0 : Int32)) := V_a1
  have ge_E0_a1 : h.size ≤ a1 := Nat.le_trans E0.1 (Nat.le_of_eq g_a1.symm)
  have E0 := Ext.trans E0 N_a1
  have n_a1 : n0 ≤ a1 := Nat.le_trans Z0 ge_E0_a1
  refine Go.dup K (q := 4) rfl d4_3 rfl ?_
  refine Go.iconst K (q := 5) rfl (v := (0 : Int32)) (by decide) d4_4 ?_
  refine Go.iloadN K (q := 6) rfl d4_5 rfl ?_
  refine Go.i2b K (q := 7) rfl d4_6 ?_
  refine Go.bastore K (q := 8) rfl V_a1 (i := 0) d4_7 ⟨by decide, by decide⟩ rfl (Nat.le_of_ble_eq_true rfl) n_a1 List.mem_cons_self ?_
  intro h3 W4 V_a1
  have E0 := Ext.wr E0 W4 ge_E0_a1
  exact Go.retA K rfl rfl d4_8 (by decide) (by decide) (fun _ q => (List.mem_cons_of_mem _ q)) (⟨a1, k_a1, rfl, E0, ge_E0_a1, V_a1⟩)
set_option maxRecDepth 65536 in
set_option maxHeartbeats 40000000 in
theorem c_ibb (l : Launch) (Z : State) (a0 : Array Value) (hw : ∀ d ∈ tables_1, d.before a0 Z = true) (xs : List Addr) (n0 : Nat) (h : Heap) (Z0 : n0 ≤ h.size) (a t : Addr) (v0 c0 : Value) (hax : a ∈ xs) (ga : n0 ≤ a) (E : Exa Z h a "java/lang/String") (Fv : Fld Z h a "java/lang/String" "value" "[B" v0) (Fc : Fld Z h a "java/lang/String" "coder" "B" c0) :
    Ctr l Z consts_1 xs n0 (⟨"java/lang/String", "<init>", "([BB)V"⟩ : MethodName) jdk_42_method_151_code 3 none [] ({ frames := 1, cells := 0, slots := 0, locals := 12 } : Room) #[(.ref a), (.ref t), (.int (0 : Int32))] h (fun v h' => v = none ∧ Keep h h' [a] ∧ Exa Z h' a "java/lang/String" ∧ Fld Z h' a "java/lang/String" "value" "[B" (.ref t) ∧ Fld Z h' a "java/lang/String" "coder" "B" (.int (0 : Int32))) := by
  refine Ctr.body pn2 ?_
  intro p e s m below meth c K
  refine Go.entry (f' := (mkF m 0 #[.val (.ref a), .val (.ref t), .val (.int (0 : Int32))] [])) (by first | (simp [entryFrame, mkF, argsToLocals, Value.category]; done) | rfl) ?_
  have K0 := Keep.refl h [a]
  refine Go.aloadN K (q := 1) rfl d5_0 rfl rfl ?_
  refine Go.initO K (q := 4) rfl (hw _ (List.mem_of_getElem? (i := 28) rfl)) (hw _ (List.mem_of_getElem? (i := 29) rfl)) (hw _ (List.mem_of_getElem? (i := 30) rfl)) rfl d5_1 (by decide) (W := 0) (Nat.le_of_eq rfl) (by decide) ?_
  refine Go.aloadN K (q := 5) rfl d5_4 rfl rfl ?_
  refine Go.aloadN K (q := 6) rfl d5_5 rfl rfl ?_
  refine Go.putF K (q := 9) rfl (hw _ (List.mem_of_getElem? (i := 31) rfl)) Via.refl Fv E (Or.inr ⟨(hw _ (List.mem_of_getElem? (i := 32) rfl)), rfl, rfl⟩) (hw _ (List.mem_of_getElem? (i := 19) rfl)) (ty := (.array .byte)) (by decide) rfl rfl d5_6 ga hax ?_
  intro h1 W2 Fv E
  have Fc := Fc.other W2 (Or.inr (own_slots hw))
  have K0 := K0.wr W2 (Or.inl List.mem_cons_self)
  refine Go.aloadN K (q := 10) rfl d5_9 rfl rfl ?_
  refine Go.iloadN K (q := 11) rfl d5_10 rfl ?_
  refine Go.putF K (q := 14) rfl (hw _ (List.mem_of_getElem? (i := 33) rfl)) Via.refl Fc E (Or.inr ⟨(hw _ (List.mem_of_getElem? (i := 34) rfl)), rfl, rfl⟩) (hw _ (List.mem_of_getElem? (i := 19) rfl)) (ty := .byte) (by decide) rfl rfl d5_11 ga hax ?_
  intro h3 W4 Fc E
  have Fv := Fv.other W4 (Or.inr (Ne.symm (own_slots hw)))
  have K0 := K0.wr W4 (Or.inl List.mem_cons_self)
  exact Go.retV K d5_14 (by decide) (by decide) (fun _ q => q) (⟨rfl, K0, E, Fv, Fc⟩)
set_option maxRecDepth 65536 in
set_option maxHeartbeats 40000000 in
theorem c_val (l : Launch) (Z : State) (a0 : Array Value) (hw : ∀ d ∈ tables_1, d.before a0 Z = true) (xs : List Addr) (n0 : Nat) (h : Heap) (Z0 : n0 ≤ h.size) (x : Int32) (hx : ¬ x < 0 ∧ ¬ (255 : Int32) < x) (z : Int32) (Sa : Sta Z h "java/lang/String" "COMPACT_STRINGS" "Z" (.int z)) (hz : ¬ z = 0) :
    Ctr l Z consts_1 xs n0 (⟨"java/lang/String", "valueOf", "(C)Ljava/lang/String;"⟩ : MethodName) jdk_42_method_139_code 1 (some (.object "java/lang/String")) [] ({ frames := 2, cells := 2, slots := 5, locals := 27 } : Room) #[(.int x)] h (fun v h' => ∃ a, v = some (.ref a) ∧ Ext h h' ∧ Str Z h' a [x]) := by
  refine Ctr.body pn3 ?_
  intro p e s m below meth c K
  refine Go.entry (f' := (mkF m 0 #[.val (.int x)] [])) (by first | (simp [entryFrame, mkF, argsToLocals, Value.category]; done) | rfl) ?_
  have E0 := Ext.refl h
  refine Go.getS K (q := 3) rfl (hw _ (List.mem_of_getElem? (i := 13) rfl)) Via.refl (Sa) d2_0 ?_
  refine Go.ifN K (q := 6) rfl d2_3 (show ¬ z = (0 : Int32) from hz) ?_
  refine Go.iloadN K (q := 7) rfl d2_6 rfl ?_
  refine Go.cS K (q := 10) rfl (y := (⟨"java/lang/StringLatin1", "canEncode", "(C)Z"⟩ : MethodName)) (c_can l Z a0 hw xs n0 h Z0 x hx.2) (hw _ (List.mem_of_getElem? (i := 14) rfl)) (hw _ (List.mem_of_getElem? (i := 15) rfl)) (hw _ (List.mem_of_getElem? (i := 16) rfl)) (hw _ (List.mem_of_getElem? (i := 17) rfl)) (by decide) pd0 (argsL := [(.int x)]) (rest := []) rfl rfl rfl rfl (W := 0) (Nat.le_of_eq rfl) (by decide) (by decide) d2_7 (cells' := 0) (slots' := 0) rfl rfl (by decide) (by decide) ?_
  intro r2 h1 hQ sz_h1
  obtain ⟨rfl, rfl⟩ := hQ
  show Go p l e _ s m _ below meth c _ _ _ _ _ _ _ _ _ h 0 0 (mkF m 10 #[.val (.int x)] [(.int (1 : Int32))])
  refine Go.ifN K (q := 13) rfl d2_10 (show ¬ (1 : Int32) = (0 : Int32) from (by decide)) ?_
  refine Go.new K (q := 16) rfl (hw _ (List.mem_of_getElem? (i := 18) rfl)) (hw _ (List.mem_of_getElem? (i := 19) rfl)) (hw _ (List.mem_of_getElem? (i := 11) rfl)) d2_13 (cells' := 1) (slots' := 4) rfl rfl (by decide) (by decide) ?_
  intro h4 a3 g_a3 N_a3 X_a3 D_a3
  have ge_E0_a3 : h.size ≤ a3 := Nat.le_trans E0.1 (Nat.le_of_eq g_a3.symm)
  have E0 := Ext.trans E0 N_a3
  have Fv_a3 : Fld Z h4 a3 "java/lang/String" "value" "[B" .null := D_a3 (Or.inr (hw _ (List.mem_of_getElem? (i := 32) rfl))) (ty := .array .byte) (by decide)
  have Fc_a3 : Fld Z h4 a3 "java/lang/String" "coder" "B" (.int (0 : Int32)) := D_a3 (Or.inr (hw _ (List.mem_of_getElem? (i := 34) rfl))) (ty := .byte) (by decide)
  have n_a3 : n0 ≤ a3 := Nat.le_trans Z0 ge_E0_a3
  refine Go.dup K (q := 17) rfl d2_16 rfl ?_
  refine Go.iloadN K (q := 18) rfl d2_17 rfl ?_
  refine Go.cS K (q := 21) rfl (y := (⟨"java/lang/StringLatin1", "toBytes", "(C)[B"⟩ : MethodName)) (c_tob l Z a0 hw (a3 :: xs) n0 h4 (Nat.le_trans Z0 E0.1) x) (hw _ (List.mem_of_getElem? (i := 20) rfl)) (hw _ (List.mem_of_getElem? (i := 21) rfl)) (hw _ (List.mem_of_getElem? (i := 16) rfl)) (hw _ (List.mem_of_getElem? (i := 22) rfl)) (by decide) pd1 (argsL := [(.int x)]) (rest := [(.ref a3), (.ref a3)]) rfl rfl rfl rfl (W := 2) (Nat.le_of_eq rfl) (by decide) (by decide) d2_18 (cells' := 2) (slots' := 5) rfl rfl (by decide) (by decide) ?_
  intro r6 h5 hQ sz_h5
  obtain ⟨t, kt, rfl, N_t, g_t, V_t⟩ := hQ
  have E0 := Ext.trans E0 N_t
  show Go p l e _ s m _ below meth c _ _ _ _ _ _ _ _ _ h5 2 5 (mkF m 21 #[.val (.int x)] [(.ref t), (.ref a3), (.ref a3)])
  have X_a3 := X_a3.ext N_t
  have Fv_a3 := Fv_a3.ext N_t
  have Fc_a3 := Fc_a3.ext N_t
  have ne_t : t ≠ a3 := Nat.ne_of_gt (Nat.lt_of_lt_of_le (show a3 < h4.size from D_a3 (Or.inr (hw _ (List.mem_of_getElem? (i := 34) rfl))) (ty := .byte) (by decide) |>.lt) g_t)
  refine Go.iconst K (q := 22) rfl (v := (0 : Int32)) (by decide) d2_21 ?_
  refine Go.cI K (q := 25) rfl (y := (⟨"java/lang/String", "<init>", "([BB)V"⟩ : MethodName)) (c_ibb l Z a0 hw (a3 :: xs) n0 h5 (Nat.le_trans Z0 E0.1) a3 t _ _ List.mem_cons_self n_a3 X_a3 Fv_a3 Fc_a3) rfl (hw _ (List.mem_of_getElem? (i := 24) rfl)) (hw _ (List.mem_of_getElem? (i := 25) rfl)) (hw _ (List.mem_of_getElem? (i := 11) rfl)) (hw _ (List.mem_of_getElem? (i := 27) rfl)) (by decide) (a := a3) pd2 (argsL := [(.ref t), (.int (0 : Int32))]) (rest := [(.ref a3)]) rfl rfl rfl rfl (W := 1) (Nat.le_of_eq rfl) (by decide) (by decide) d2_22 (cells' := 2) (slots' := 5) rfl rfl (by decide) (by decide) ?_
  intro r8 h7 hQ sz_h7
  obtain ⟨rfl, K_x, X_x, Fv_x, Fc_x⟩ := hQ
  have E0 := Ext.keep E0 K_x (allS ge_E0_a3 all0)
  show Go p l e _ s m _ below meth c _ _ _ _ _ _ _ _ _ h7 2 5 (mkF m 25 #[.val (.int x)] [(.ref a3)])
  have V_t := V_t.keep K_x (ninS ne_t nin0)
  exact Go.retA K rfl rfl d2_25 (by decide) (by decide) (fun _ q => (List.mem_cons_of_mem _ q)) (⟨a3, rfl, E0, t, kt, 0, 1, _, X_x, Fv_x, Fc_x, V_t, Or.inl ⟨rfl, rfl, by simp [own_nb], by intro c hc; cases List.mem_singleton.mp hc; exact hx.2⟩, up16 (by intro c hc; cases List.mem_singleton.mp hc; exact hx), by simp⟩)
set_option maxRecDepth 65536 in
set_option maxHeartbeats 40000000 in
theorem c_e4 (l : Launch) (Z : State) (a0 : Array Value) (hw : ∀ d ∈ tables_1, d.before a0 Z = true) (xs : List Addr) (n0 : Nat) (h : Heap) (Z0 : n0 ≤ h.size) (a b : Addr) (v0 c0 : Value) (hax : a ∈ xs) (ga : n0 ≤ a) (E : Exa Z h a "java/lang/String") (Fv : Fld Z h a "java/lang/String" "value" "[B" v0) (Fc : Fld Z h a "java/lang/String" "coder" "B" c0) :
    Ctr l Z consts_1 xs n0 (⟨"java/lang/String", "<init>", "([CIILjava/lang/Void;)V"⟩ : MethodName) jdk_42_method_149_code 6 none [] ({ frames := 1, cells := 4, slots := 8, locals := 12 } : Room) #[(.ref a), (.ref b), (.int (0 : Int32)), (.int (0 : Int32)), .null] h (fun v h' => v = none ∧ Keep h h' [a] ∧ Str Z h' a []) := by
  refine Ctr.body pn4 ?_
  intro p e s m below meth c K
  have own_atoms := own_atoms0 hw
  refine Go.entry (f' := (mkF m 0 #[.val (.ref a), .val (.ref b), .val (.int (0 : Int32)), .val (.int (0 : Int32)), .val .null, .unset] [])) (by first | (simp [entryFrame, mkF, argsToLocals, Value.category]; done) | rfl) ?_
  have K0 := Keep.refl h [a]
  refine Go.aloadN K (q := 1) rfl d12_0 rfl rfl ?_
  refine Go.initO K (q := 4) rfl (hw _ (List.mem_of_getElem? (i := 28) rfl)) (hw _ (List.mem_of_getElem? (i := 29) rfl)) (hw _ (List.mem_of_getElem? (i := 30) rfl)) rfl d12_1 (by decide) (W := 0) (Nat.le_of_eq rfl) (by decide) ?_
  refine Go.iloadN K (q := 5) rfl d12_4 rfl ?_
  refine Go.ifN K (q := 8) rfl d12_5 (show (0 : Int32) = (0 : Int32) from rfl) ?_
  refine Go.aloadN K (q := 9) rfl d12_8 rfl rfl ?_
  refine Go.ldcS K (q := 11) rfl (text := "") (by decide) (hw _ (List.mem_of_getElem? (i := 68) rfl)) own_atoms (by decide) d12_9 (n := 0) (by decide) (by decide) (cells' := 2) (slots' := 4) rfl rfl (by decide) (by decide) ?_
  intro h1 s2 N_s2 T_s2
  have K0 := K0.ext N_s2
  have E := E.ext N_s2
  have Fv := Fv.ext N_s2
  have Fc := Fc.ext N_s2
  obtain ⟨us1, hu1, t1, kb1, L1_1, L2_1, L3_1, L4_1, L5_1, L6_1⟩ := T_s2
  refine Go.getF K (q := 14) rfl (hw _ (List.mem_of_getElem? (i := 31) rfl)) Via.refl (L2_1) d12_11 ?_
  have S1 : Str Z h1 s2 (chs "") := Str.lit (by decide) (by decide) ⟨us1, hu1, t1, kb1, L1_1, L2_1, L3_1, L4_1, L5_1, L6_1⟩
  refine Go.putF K (q := 17) rfl (hw _ (List.mem_of_getElem? (i := 31) rfl)) Via.refl Fv E (Or.inr ⟨(hw _ (List.mem_of_getElem? (i := 32) rfl)), rfl, rfl⟩) (hw _ (List.mem_of_getElem? (i := 19) rfl)) (ty := (.array .byte)) (by decide) rfl rfl d12_14 ga hax ?_
  intro h3 W4 Fv E
  have Fc := Fc.other W4 (Or.inr (own_slots hw))
  have K0 := K0.wr W4 (Or.inl List.mem_cons_self)
  have A4 := L4_1.other W4 (fun q => L6_1 (q ▸ hax))
  refine Go.aloadN K (q := 18) rfl d12_17 rfl rfl ?_
  refine Go.ldcS K (q := 20) rfl (text := "") (by decide) (hw _ (List.mem_of_getElem? (i := 68) rfl)) own_atoms (by decide) d12_18 (n := 0) (by decide) (by decide) (cells' := 4) (slots' := 8) rfl rfl (by decide) (by decide) ?_
  intro h5 s6 N_s6 T_s6
  have K0 := K0.ext N_s6
  have E := E.ext N_s6
  have Fv := Fv.ext N_s6
  have Fc := Fc.ext N_s6
  obtain ⟨us2, hu2, t2, kb2, L1_2, L2_2, L3_2, L4_2, L5_2, L6_2⟩ := T_s6
  have A4 := A4.ext N_s6
  refine Go.getF K (q := 23) rfl (hw _ (List.mem_of_getElem? (i := 33) rfl)) Via.refl (L3_2) d12_20 ?_
  refine Go.putF K (q := 26) rfl (hw _ (List.mem_of_getElem? (i := 33) rfl)) Via.refl Fc E (Or.inr ⟨(hw _ (List.mem_of_getElem? (i := 34) rfl)), rfl, rfl⟩) (hw _ (List.mem_of_getElem? (i := 19) rfl)) (ty := .byte) (by decide) rfl rfl d12_23 ga hax ?_
  intro h7 W8 Fc E
  have Fv := Fv.other W8 (Or.inr (Ne.symm (own_slots hw)))
  have K0 := K0.wr W8 (Or.inl List.mem_cons_self)
  have A4 := A4.other W8 (fun q => L6_1 (q ▸ hax))
  have us0 : us1.size = 0 := by rw [← Array.length_toList, Jvm.ClassFile.units_of_text hu1 (by decide)]; rfl
  have ut0 : us1.toList = [] := by rw [Jvm.ClassFile.units_of_text hu1 (by decide)]; rfl
  rw [us0, ut0] at A4
  exact Go.retV K d12_26 (by decide) (by decide) (fun _ q => q) (⟨rfl, K0, t1, kb1, 0, 0, [], E, Fv, Fc, A4, Or.inl ⟨rfl, rfl, rfl, by intro c hc; cases hc⟩, (by intro c hc; cases hc), by decide⟩)
set_option maxRecDepth 65536 in
set_option maxHeartbeats 40000000 in
theorem c_e1 (l : Launch) (Z : State) (a0 : Array Value) (hw : ∀ d ∈ tables_1, d.before a0 Z = true) (xs : List Addr) (n0 : Nat) (h : Heap) (Z0 : n0 ≤ h.size) (a b : Addr) (kb : ClassId) (dv v0 c0 : Value) (hax : a ∈ xs) (ga : n0 ≤ a) (E : Exa Z h a "java/lang/String") (Fv : Fld Z h a "java/lang/String" "value" "[B" v0) (Fc : Fld Z h a "java/lang/String" "coder" "B" c0) (V : Arv Z h b kb .char (0 : Int32) [] dv) :
    Ctr l Z consts_1 xs n0 (⟨"java/lang/String", "<init>", "([C)V"⟩ : MethodName) jdk_42_method_3_code 2 none [] ({ frames := 2, cells := 4, slots := 8, locals := 29 } : Room) #[(.ref a), (.ref b)] h (fun v h' => v = none ∧ Keep h h' [a] ∧ Str Z h' a []) := by
  refine Ctr.body pn5 ?_
  intro p e s m below meth c K
  refine Go.entry (f' := (mkF m 0 #[.val (.ref a), .val (.ref b)] [])) (by first | (simp [entryFrame, mkF, argsToLocals, Value.category]; done) | rfl) ?_
  refine Go.aloadN K (q := 1) rfl d11_0 rfl rfl ?_
  refine Go.aloadN K (q := 2) rfl d11_1 rfl rfl ?_
  refine Go.iconst K (q := 3) rfl (v := (0 : Int32)) (by decide) d11_2 ?_
  refine Go.aloadN K (q := 4) rfl d11_3 rfl rfl ?_
  refine Go.alen K (q := 5) rfl V d11_4 ?_
  refine Go.aconstNull K (q := 6) rfl d11_5 ?_
  show Go p l e _ s m _ below meth c _ _ _ _ _ _ _ _ _ h 0 0 (mkF m 6 #[.val (.ref a), .val (.ref b)] [.null, (.int (0 : Int32)), (.int (0 : Int32)), (.ref b), (.ref a)])
  refine Go.cI K (q := 9) rfl (y := (⟨"java/lang/String", "<init>", "([CIILjava/lang/Void;)V"⟩ : MethodName)) (c_e4 l Z a0 hw xs n0 h Z0 a b _ _ hax ga E Fv Fc) rfl (hw _ (List.mem_of_getElem? (i := 65) rfl)) (hw _ (List.mem_of_getElem? (i := 66) rfl)) (hw _ (List.mem_of_getElem? (i := 11) rfl)) (hw _ (List.mem_of_getElem? (i := 67) rfl)) (by decide) (a := a) pd3 (argsL := [(.ref b), (.int (0 : Int32)), (.int (0 : Int32)), .null]) (rest := []) rfl rfl rfl rfl (W := 0) (Nat.le_of_eq rfl) (by decide) (by decide) d11_6 (cells' := 4) (slots' := 8) rfl rfl (by decide) (by decide) ?_
  intro r2 h1 hQ sz_h1
  obtain ⟨rfl, K0, S0⟩ := hQ
  show Go p l e _ s m _ below meth c _ _ _ _ _ _ _ _ _ h1 4 8 (mkF m 9 #[.val (.ref a), .val (.ref b)] [])
  exact Go.retV K d11_9 (by decide) (by decide) (fun _ q => q) (⟨rfl, K0, S0⟩)
set_option maxRecDepth 65536 in
set_option maxHeartbeats 40000000 in
theorem c_leq (l : Launch) (Z : State) (a0 : Array Value) (hw : ∀ d ∈ tables_1, d.before a0 Z = true) (xs : List Addr) (n0 : Nat) (h : Heap) (Z0 : n0 ≤ h.size) (t u : Addr) (kt ku : ClassId) (us vs : List Int32) (hu : us = [] ∨ ∃ x, us = [x]) (hv : vs = [] ∨ ∃ y, vs = [y]) (V : Arv Z h t kt .byte (Int32.ofNat us.length) (us.map Value.int) (.int 0)) (U : Arv Z h u ku .byte (Int32.ofNat vs.length) (vs.map Value.int) (.int 0)) :
    Ctr l Z consts_1 xs n0 (⟨"java/lang/StringLatin1", "equals", "([B[B)Z"⟩ : MethodName) jdk_43_method_13_code 3 (some .boolean) [] ({ frames := 0, cells := 0, slots := 0, locals := 0 } : Room) #[(.ref t), (.ref u)] h (fun v h' => v = some (.int (if us = vs then 1 else 0)) ∧ h = h') := by
  refine Ctr.body pn6 ?_
  intro p e s m below meth c K
  refine Go.entry (f' := (mkF m 0 #[.val (.ref t), .val (.ref u), .unset] [])) (by first | (simp [entryFrame, mkF, argsToLocals, Value.category]; done) | rfl) ?_
  rcases hu with rfl | ⟨x, rfl⟩ <;> rcases hv with rfl | ⟨y, rfl⟩
  · skip
    have V : Arv Z h t kt .byte (0 : Int32) [] (.int (0 : Int32)) := V
    have U : Arv Z h u ku .byte (0 : Int32) [] (.int (0 : Int32)) := U
    refine Go.aloadN K (q := 1) rfl d20_0 rfl rfl ?_
    refine Go.alen K (q := 2) rfl V d20_1 ?_
    refine Go.aloadN K (q := 3) rfl d20_2 rfl rfl ?_
    refine Go.alen K (q := 4) rfl U d20_3 ?_
    refine Go.icmpN K (q := 7) rfl d20_4 (show (0 : Int32) = (0 : Int32) from rfl) ?_
    refine Go.iconst K (q := 8) rfl (v := (0 : Int32)) (by decide) d20_7 ?_
    refine Go.istoreN K (q := 9) rfl (L' := #[.val (.ref t), .val (.ref u), .val (.int (0 : Int32))]) d20_8 rfl ?_
    refine Go.iloadN K (q := 10) rfl d20_9 rfl ?_
    refine Go.aloadN K (q := 11) rfl d20_10 rfl rfl ?_
    refine Go.alen K (q := 12) rfl V d20_11 ?_
    refine Go.icmpY K (q := 32) (by decide) (by decide) d20_12 (show ¬ (0 : Int32) < (0 : Int32) from (by decide)) ?_
    refine Go.iconst K (q := 33) rfl (v := (1 : Int32)) (by decide) d20_32 ?_
    exact Go.retN K (by simp) d20_33 (by decide) (by decide) (fun _ q => q) (⟨rfl, rfl⟩)
  · skip
    have V : Arv Z h t kt .byte (0 : Int32) [] (.int (0 : Int32)) := V
    have U : Arv Z h u ku .byte (1 : Int32) [.int y] (.int (0 : Int32)) := U
    refine Go.aloadN K (q := 1) rfl d20_0 rfl rfl ?_
    refine Go.alen K (q := 2) rfl V d20_1 ?_
    refine Go.aloadN K (q := 3) rfl d20_2 rfl rfl ?_
    refine Go.alen K (q := 4) rfl U d20_3 ?_
    refine Go.icmpY K (q := 34) (by decide) (by decide) d20_4 (show ¬ (0 : Int32) = (1 : Int32) from (by decide)) ?_
    refine Go.iconst K (q := 35) rfl (v := (0 : Int32)) (by decide) d20_34 ?_
    exact Go.retN K (by simp) d20_35 (by decide) (by decide) (fun _ q => q) (⟨by rw [if_neg (by simp)]; rfl, rfl⟩)
  · skip
    have V : Arv Z h t kt .byte (1 : Int32) [.int x] (.int (0 : Int32)) := V
    have U : Arv Z h u ku .byte (0 : Int32) [] (.int (0 : Int32)) := U
    refine Go.aloadN K (q := 1) rfl d20_0 rfl rfl ?_
    refine Go.alen K (q := 2) rfl V d20_1 ?_
    refine Go.aloadN K (q := 3) rfl d20_2 rfl rfl ?_
    refine Go.alen K (q := 4) rfl U d20_3 ?_
    refine Go.icmpY K (q := 34) (by decide) (by decide) d20_4 (show ¬ (1 : Int32) = (0 : Int32) from (by decide)) ?_
    refine Go.iconst K (q := 35) rfl (v := (0 : Int32)) (by decide) d20_34 ?_
    exact Go.retN K (by simp) d20_35 (by decide) (by decide) (fun _ q => q) (⟨by rw [if_neg (by simp)]; rfl, rfl⟩)
  · skip
    have V : Arv Z h t kt .byte (1 : Int32) [.int x] (.int (0 : Int32)) := V
    have U : Arv Z h u ku .byte (1 : Int32) [.int y] (.int (0 : Int32)) := U
    refine Go.aloadN K (q := 1) rfl d20_0 rfl rfl ?_
    refine Go.alen K (q := 2) rfl V d20_1 ?_
    refine Go.aloadN K (q := 3) rfl d20_2 rfl rfl ?_
    refine Go.alen K (q := 4) rfl U d20_3 ?_
    refine Go.icmpN K (q := 7) rfl d20_4 (show (1 : Int32) = (1 : Int32) from rfl) ?_
    refine Go.iconst K (q := 8) rfl (v := (0 : Int32)) (by decide) d20_7 ?_
    refine Go.istoreN K (q := 9) rfl (L' := #[.val (.ref t), .val (.ref u), .val (.int (0 : Int32))]) d20_8 rfl ?_
    refine Go.iloadN K (q := 10) rfl d20_9 rfl ?_
    refine Go.aloadN K (q := 11) rfl d20_10 rfl rfl ?_
    refine Go.alen K (q := 12) rfl V d20_11 ?_
    refine Go.icmpN K (q := 15) rfl d20_12 (show (0 : Int32) < (1 : Int32) from (by decide)) ?_
    refine Go.aloadN K (q := 16) rfl d20_15 rfl rfl ?_
    refine Go.iloadN K (q := 17) rfl d20_16 rfl ?_
    refine Go.baload K (q := 18) rfl V d20_17 ⟨by decide, by decide⟩ (v := (.int x)) rfl ?_
    refine Go.aloadN K (q := 19) rfl d20_18 rfl rfl ?_
    refine Go.iloadN K (q := 20) rfl d20_19 rfl ?_
    refine Go.baload K (q := 21) rfl U d20_20 ⟨by decide, by decide⟩ (v := (.int y)) rfl ?_
    refine Go.icmp K (q := 26) (q' := 24) (by decide) (by decide) rfl d20_21 (fun (hxy : x = y) => ?_) (fun (hxy : ¬ x = y) => ?_)
    · skip
      refine Go.iinc K (q := 29) rfl (L' := #[.val (.ref t), .val (.ref u), .val (.int ((0 : Int32) + (1 : Int32)))]) (y := (1 : Int32)) (by decide) d20_26 rfl rfl ?_
      refine Go.goto K (q := 9) (by decide) (by decide) d20_29 ?_
      refine Go.iloadN K (q := 10) rfl d20_9 rfl ?_
      refine Go.aloadN K (q := 11) rfl d20_10 rfl rfl ?_
      refine Go.alen K (q := 12) rfl V d20_11 ?_
      refine Go.icmpY K (q := 32) (by decide) (by decide) d20_12 (show ¬ ((0 : Int32) + (1 : Int32)) < (1 : Int32) from (by decide)) ?_
      refine Go.iconst K (q := 33) rfl (v := (1 : Int32)) (by decide) d20_32 ?_
      exact Go.retN K (by simp) d20_33 (by decide) (by decide) (fun _ q => q) (⟨by rw [if_pos (by rw [hxy])]; rfl, rfl⟩)
    · skip
      refine Go.iconst K (q := 25) rfl (v := (0 : Int32)) (by decide) d20_24 ?_
      exact Go.retN K (by simp) d20_25 (by decide) (by decide) (fun _ q => q) (⟨by rw [if_neg (by simpa using hxy)]; rfl, rfl⟩)
set_option maxRecDepth 65536 in
set_option maxHeartbeats 40000000 in
theorem c_seq (l : Launch) (Z : State) (a0 : Array Value) (hw : ∀ d ∈ tables_1, d.before a0 Z = true) (xs : List Addr) (n0 : Nat) (h : Heap) (Z0 : n0 ≤ h.size) (a b : Addr) (cs ds : List Int32) (z : Int32) (Sa : Sta Z h "java/lang/String" "COMPACT_STRINGS" "Z" (.int z)) (hz : ¬ z = 0) (F : Str Z h a cs) (G : Str Z h b ds) (hc : cs.length ≤ 1) (hd : ds.length ≤ 1) :
    Ctr l Z consts_1 xs n0 (⟨"java/lang/String", "equals", "(Ljava/lang/Object;)Z"⟩ : MethodName) jdk_42_method_66_code 3 (some .boolean) [] ({ frames := 1, cells := 0, slots := 0, locals := 14 } : Room) #[(.ref a), (.ref b)] h (fun v h' => v = some (.int (if cs = ds then 1 else 0)) ∧ h = h') := by
  refine Ctr.body pn7 ?_
  intro p e s m below meth c K
  refine Go.entry (f' := (mkF m 0 #[.val (.ref a), .val (.ref b), .unset] [])) (by first | (simp [entryFrame, mkF, argsToLocals, Value.category]; done) | rfl) ?_
  refine Go.aloadN K (q := 1) rfl d19_0 rfl rfl ?_
  refine Go.aloadN K (q := 2) rfl d19_1 rfl rfl ?_
  by_cases hab : a = b
  · skip
    refine Go.acmp K (q := 5) rfl rfl (same := true) (decide_eq_true (congrArg Value.ref hab)) (by decide) (by decide) d19_2 ?_
    refine Go.iconst K (q := 6) rfl (v := (1 : Int32)) (by decide) d19_5 ?_
    subst hab
    exact Go.retN K (by simp) d19_6 (by decide) (by decide) (fun _ q => q) (⟨by rw [if_pos (F.uniq G)]; rfl, rfl⟩)
  · skip
    refine Go.acmp K (q := 7) rfl rfl (same := false) (decide_eq_false fun q => hab (Value.ref.inj q)) (by decide) (by decide) d19_2 ?_
    refine Go.aloadN K (q := 8) rfl d19_7 rfl rfl ?_
    have F0 := F
    have G0 := G
    obtain ⟨t, kb, cd, N2, vs, f1, f2, f3, f4, f5, f6, f7⟩ := F
    obtain ⟨t', kb', cd', N2', vs', g1, g2, g3, g4, g5, g6, g7⟩ := G
    rcases f5 with ⟨rfl, rfl, rfl, hb⟩ | z
    case inr => exact z.elim
    rcases g5 with ⟨rfl, rfl, rfl, hb'⟩ | z
    case inr => exact z.elim
    have V : Arv Z h t kb .byte (Int32.ofNat (cs.map fun c => c.toInt8.toInt32).length) ((cs.map fun c => c.toInt8.toInt32).map Value.int) (.int 0) := by rw [List.length_map, List.map_map]; exact f4
    have U : Arv Z h t' kb' .byte (Int32.ofNat (ds.map fun c => c.toInt8.toInt32).length) ((ds.map fun c => c.toInt8.toInt32).map Value.int) (.int 0) := by rw [List.length_map, List.map_map]; exact g4
    have hq : (cs.map fun c => c.toInt8.toInt32) = (ds.map fun c => c.toInt8.toInt32) ↔ cs = ds := ⟨lo8_list cs ds (fun c hc => ⟨(f6 c hc).1, hb c hc⟩) (fun c hc => ⟨(g6 c hc).1, hb' c hc⟩), fun e => by rw [e]⟩
    refine Go.instY K (q := 11) rfl (hw _ (List.mem_of_getElem? (i := 18) rfl)) (Ins.self g1) d19_8 ?_
    refine Go.ifN K (q := 14) rfl d19_11 (show ¬ (1 : Int32) = (0 : Int32) from (by decide)) ?_
    refine Go.aloadN K (q := 15) rfl d19_14 rfl rfl ?_
    refine Go.castY K (q := 18) rfl (hw _ (List.mem_of_getElem? (i := 18) rfl)) (Ins.self g1) d19_15 ?_
    refine Go.astoreN K (q := 19) rfl (L' := #[.val (.ref a), .val (.ref b), .val (.ref b)]) d19_18 rfl rfl ?_
    refine Go.getS K (q := 22) rfl (hw _ (List.mem_of_getElem? (i := 13) rfl)) Via.refl (Sa) d19_19 ?_
    refine Go.ifN K (q := 25) rfl d19_22 (show ¬ z = (0 : Int32) from hz) ?_
    refine Go.aloadN K (q := 26) rfl d19_25 rfl rfl ?_
    refine Go.getF K (q := 29) rfl (hw _ (List.mem_of_getElem? (i := 33) rfl)) Via.refl (f3) d19_26 ?_
    refine Go.aloadN K (q := 30) rfl d19_29 rfl rfl ?_
    refine Go.getF K (q := 33) rfl (hw _ (List.mem_of_getElem? (i := 33) rfl)) Via.refl (g3) d19_30 ?_
    refine Go.icmpN K (q := 36) rfl d19_33 (show (0 : Int32) = (0 : Int32) from rfl) ?_
    refine Go.aloadN K (q := 37) rfl d19_36 rfl rfl ?_
    refine Go.getF K (q := 40) rfl (hw _ (List.mem_of_getElem? (i := 31) rfl)) Via.refl (f2) d19_37 ?_
    refine Go.aloadN K (q := 41) rfl d19_40 rfl rfl ?_
    refine Go.getF K (q := 44) rfl (hw _ (List.mem_of_getElem? (i := 31) rfl)) Via.refl (g2) d19_41 ?_
    show Go p l e _ s m _ below meth c _ _ _ _ _ _ _ _ _ h 0 0 (mkF m 44 #[.val (.ref a), .val (.ref b), .val (.ref b)] [(.ref t'), (.ref t)])
    refine Go.cS K (q := 47) rfl (y := (⟨"java/lang/StringLatin1", "equals", "([B[B)Z"⟩ : MethodName)) (c_leq l Z a0 hw xs n0 h Z0 t t' _ _ _ _ (own_one hc) (own_one hd) V U) (hw _ (List.mem_of_getElem? (i := 119) rfl)) (hw _ (List.mem_of_getElem? (i := 120) rfl)) (hw _ (List.mem_of_getElem? (i := 16) rfl)) (hw _ (List.mem_of_getElem? (i := 121) rfl)) (by decide) pd4 (argsL := [(.ref t), (.ref t')]) (rest := []) rfl rfl rfl rfl (W := 0) (Nat.le_of_eq rfl) (by decide) (by decide) d19_44 (cells' := 0) (slots' := 0) rfl rfl (by decide) (by decide) ?_
    intro r2 h1 hQ sz_h1
    obtain ⟨rfl, rfl⟩ := hQ
    show Go p l e _ s m _ below meth c _ _ _ _ _ _ _ _ _ h 0 0 (mkF m 47 #[.val (.ref a), .val (.ref b), .val (.ref b)] [(.int (if (cs.map fun c => c.toInt8.toInt32) = (ds.map fun c => c.toInt8.toInt32) then 1 else 0))])
    by_cases he : cs = ds
    · skip
      rw [if_pos (hq.mpr he)]
      refine Go.ifN K (q := 50) rfl d19_47 (show ¬ (1 : Int32) = (0 : Int32) from (by decide)) ?_
      refine Go.iconst K (q := 51) rfl (v := (1 : Int32)) (by decide) d19_50 ?_
      refine Go.goto K (q := 55) (by decide) (by decide) d19_51 ?_
      exact Go.retN K (by simp) d19_55 (by decide) (by decide) (fun _ q => q) (⟨by rw [if_pos he]; rfl, rfl⟩)
    · skip
      rw [if_neg (fun q => he (hq.mp q))]
      refine Go.ifY K (q := 54) (by decide) (by decide) d19_47 (show (0 : Int32) = (0 : Int32) from rfl) ?_
      refine Go.iconst K (q := 55) rfl (v := (0 : Int32)) (by decide) d19_54 ?_
      exact Go.retN K (by simp) d19_55 (by decide) (by decide) (fun _ q => q) (⟨by rw [if_neg he]; rfl, rfl⟩)
set_option maxRecDepth 65536 in
set_option maxHeartbeats 40000000 in
theorem c_str (l : Launch) (Z : State) (a0 : Array Value) (hw : ∀ d ∈ tables_1, d.before a0 Z = true) (xs : List Addr) (n0 : Nat) (h : Heap) (Z0 : n0 ≤ h.size) (n x : Int32) (hx : ¬ x.toUInt32.toUInt16.toUInt32.toInt32 < 0 ∧ ¬ (255 : Int32) < x.toUInt32.toUInt16.toUInt32.toInt32) (z : Int32) (Sa : Sta Z h "java/lang/String" "COMPACT_STRINGS" "Z" (.int z)) (hz : ¬ z = 0) :
    Ctr l Z consts_1 xs n0 (⟨"com/example/vestline/vestline/ocf/FindingEqualsPinLaw", "str", "(II)Ljava/lang/String;"⟩ : MethodName) method_2_code 2 (some (.object "java/lang/String")) [] ({ frames := 3, cells := 6, slots := 12, locals := 43 } : Room) #[(.int n), (.int x)] h (fun v h' => ∃ a, v = some (.ref a) ∧ Ext h h' ∧ Str Z h' a (own_s n x)) := by
  refine Ctr.body pn8 ?_
  intro p e s m below meth c K
  refine Go.entry (f' := (mkF m 0 #[.val (.int n), .val (.int x)] [])) (by first | (simp [entryFrame, mkF, argsToLocals, Value.category]; done) | rfl) ?_
  have E0 := Ext.refl h
  refine Go.iloadN K (q := 1) rfl d10_0 rfl ?_
  refine Go.ifc K (q := 15) (q' := 4) (by decide) (by decide) rfl d10_1 (fun (hc : ¬ n = (0 : Int32)) => ?_) (fun (hc : n = (0 : Int32)) => ?_)
  · skip
    refine Go.iloadN K (q := 16) rfl d10_15 rfl ?_
    refine Go.i2c K (q := 17) rfl d10_16 ?_
    refine Go.cS K (q := 20) rfl (y := (⟨"java/lang/String", "valueOf", "(C)Ljava/lang/String;"⟩ : MethodName)) (c_val l Z a0 hw xs n0 h Z0 x.toUInt32.toUInt16.toUInt32.toInt32 hx z Sa hz) (hw _ (List.mem_of_getElem? (i := 9) rfl)) (hw _ (List.mem_of_getElem? (i := 10) rfl)) (hw _ (List.mem_of_getElem? (i := 11) rfl)) (hw _ (List.mem_of_getElem? (i := 12) rfl)) (by decide) pd5 (argsL := [(.int x.toUInt32.toUInt16.toUInt32.toInt32)]) (rest := []) rfl rfl rfl rfl (W := 0) (Nat.le_of_eq rfl) (by decide) (by decide) d10_17 (cells' := 2) (slots' := 5) rfl rfl (by decide) (by decide) ?_
    intro r2 h1 hQ sz_h1
    obtain ⟨a, rfl, N_a, S_a⟩ := hQ
    have E0 := Ext.trans E0 N_a
    show Go p l e _ s m _ below meth c _ _ _ _ _ _ _ _ _ h1 2 5 (mkF m 20 #[.val (.int n), .val (.int x)] [(.ref a)])
    exact Go.retA K rfl rfl d10_20 (by decide) (by decide) (fun _ q => q) (⟨a, rfl, E0, by rw [own_s, if_neg hc]; exact S_a⟩)
  · skip
    refine Go.new K (q := 7) rfl (hw _ (List.mem_of_getElem? (i := 60) rfl)) (hw _ (List.mem_of_getElem? (i := 19) rfl)) (hw _ (List.mem_of_getElem? (i := 11) rfl)) d10_4 (cells' := 1) (slots' := 4) rfl rfl (by decide) (by decide) ?_
    intro h4 a3 g_a3 N_a3 X_a3 D_a3
    have ge_E0_a3 : h.size ≤ a3 := Nat.le_trans E0.1 (Nat.le_of_eq g_a3.symm)
    have E0 := Ext.trans E0 N_a3
    have Fv_a3 : Fld Z h4 a3 "java/lang/String" "value" "[B" .null := D_a3 (Or.inr (hw _ (List.mem_of_getElem? (i := 32) rfl))) (ty := .array .byte) (by decide)
    have Fc_a3 : Fld Z h4 a3 "java/lang/String" "coder" "B" (.int (0 : Int32)) := D_a3 (Or.inr (hw _ (List.mem_of_getElem? (i := 34) rfl))) (ty := .byte) (by decide)
    have n_a3 : n0 ≤ a3 := Nat.le_trans Z0 ge_E0_a3
    refine Go.dup K (q := 8) rfl d10_7 rfl ?_
    refine Go.iconst K (q := 9) rfl (v := (0 : Int32)) (by decide) d10_8 ?_
    refine Go.newarr K (q := 11) rfl (hw _ (List.mem_of_getElem? (i := 61) rfl)) d10_9 (by decide) (cap := 0) (by decide) (by decide) (cells' := 2) (slots' := 4) rfl rfl (by decide) (by decide) ?_
    intro h6 a5 k_a5 g_a5 N_a5 V_a5
    have V_a5 : Arv Z h6 a5 k_a5 .char (0 : Int32) [] (.int (0 : Int32)) := V_a5
    have ge_E0_a5 : h.size ≤ a5 := Nat.le_trans E0.1 (Nat.le_of_eq g_a5.symm)
    have E0 := Ext.trans E0 N_a5
    have X_a3 := X_a3.ext N_a5
    have Fv_a3 := Fv_a3.ext N_a5
    have Fc_a3 := Fc_a3.ext N_a5
    refine Go.cI K (q := 14) rfl (y := (⟨"java/lang/String", "<init>", "([C)V"⟩ : MethodName)) (c_e1 l Z a0 hw (a5 :: a3 :: xs) n0 h6 (Nat.le_trans Z0 E0.1) a3 a5 _ _ _ _ (List.mem_cons_of_mem _ List.mem_cons_self) n_a3 X_a3 Fv_a3 Fc_a3 V_a5) rfl (hw _ (List.mem_of_getElem? (i := 62) rfl)) (hw _ (List.mem_of_getElem? (i := 63) rfl)) (hw _ (List.mem_of_getElem? (i := 11) rfl)) (hw _ (List.mem_of_getElem? (i := 64) rfl)) (by decide) (a := a3) pd6 (argsL := [(.ref a5)]) (rest := [(.ref a3)]) rfl rfl rfl rfl (W := 1) (Nat.le_of_eq rfl) (by decide) (by decide) d10_11 (cells' := 6) (slots' := 12) rfl rfl (by decide) (by decide) ?_
    intro r9 h8 hQ sz_h8
    obtain ⟨rfl, K7, S_a3⟩ := hQ
    have E0 := Ext.keep E0 K7 (allS ge_E0_a3 all0)
    show Go p l e _ s m _ below meth c _ _ _ _ _ _ _ _ _ h8 6 12 (mkF m 14 #[.val (.int n), .val (.int x)] [(.ref a3)])
    exact Go.retA K rfl rfl d10_14 (by decide) (by decide) (fun _ q => (List.mem_cons_of_mem _ (List.mem_cons_of_mem _ q))) (⟨a3, rfl, E0, by rw [own_s, if_pos hc]; exact S_a3⟩)
set_option maxRecDepth 65536 in
set_option maxHeartbeats 40000000 in
theorem c_il (l : Launch) (Z : State) (a0 : Array Value) (hw : ∀ d ∈ tables_1, d.before a0 Z = true) (xs : List Addr) (n0 : Nat) (h : Heap) (Z0 : n0 ≤ h.size) (x : Int32) :
    Ctr l Z consts_1 xs n0 (⟨"com/example/vestline/vestline/ocf/FindingEqualsPinLaw", "itemLen", "(I)I"⟩ : MethodName) method_3_code 1 (some .int) [] ({ frames := 0, cells := 0, slots := 0, locals := 0 } : Room) #[(.int x)] h (fun v h' => v = some (.int (own_il x)) ∧ h = h') := by
  refine Ctr.body pn9 ?_
  intro p e s m below meth c K
  refine Go.entry (f' := (mkF m 0 #[.val (.int x)] [])) (by first | (simp [entryFrame, mkF, argsToLocals, Value.category]; done) | rfl) ?_
  refine Go.iloadN K (q := 1) rfl d17_0 rfl ?_
  refine Go.bipush K (q := 3) rfl (v := (9 : Int32)) (by decide) d17_1 ?_
  refine Go.iushr K (q := 4) rfl d17_3 ?_
  refine Go.iconst K (q := 5) rfl (v := (3 : Int32)) (by decide) d17_4 ?_
  refine Go.iand K (q := 6) rfl d17_5 ?_
  refine Go.iconst K (q := 7) rfl (v := (2 : Int32)) (by decide) d17_6 ?_
  refine Go.icmp K (q := 14) (q' := 10) (by decide) (by decide) rfl d17_7 (fun (hc : (((x.toUInt32 >>> ((9 : Int32) &&& 31).toUInt32).toInt32) &&& (3 : Int32)) < (2 : Int32)) => ?_) (fun (hc : ¬ (((x.toUInt32 >>> ((9 : Int32) &&& 31).toUInt32).toInt32) &&& (3 : Int32)) < (2 : Int32)) => ?_)
  · skip
    refine Go.iconst K (q := 15) rfl (v := (0 : Int32)) (by decide) d17_14 ?_
    exact Go.retI K d17_15 (by decide) (by decide) (fun _ q => q) (⟨by rw [own_il, if_pos hc], rfl⟩)
  · skip
    refine Go.iconst K (q := 11) rfl (v := (1 : Int32)) (by decide) d17_10 ?_
    refine Go.goto K (q := 15) (by decide) (by decide) d17_11 ?_
    exact Go.retI K d17_15 (by decide) (by decide) (fun _ q => q) (⟨by rw [own_il, if_neg hc], rfl⟩)
set_option maxRecDepth 65536 in
set_option maxHeartbeats 40000000 in
theorem c_ss (l : Launch) (Z : State) (a0 : Array Value) (hw : ∀ d ∈ tables_1, d.before a0 Z = true) (xs : List Addr) (n0 : Nat) (h : Heap) (Z0 : n0 ≤ h.size) (n x k y : Int32) :
    Ctr l Z consts_1 xs n0 (⟨"com/example/vestline/vestline/ocf/FindingEqualsPinLaw", "sameStr", "(IIII)Z"⟩ : MethodName) method_4_code 4 (some .boolean) [] ({ frames := 0, cells := 0, slots := 0, locals := 0 } : Room) #[(.int n), (.int x), (.int k), (.int y)] h (fun v h' => v = some (.int (own_ss n x k y)) ∧ h = h') := by
  refine Ctr.body pn10 ?_
  intro p e s m below meth c K
  refine Go.entry (f' := (mkF m 0 #[.val (.int n), .val (.int x), .val (.int k), .val (.int y)] [])) (by first | (simp [entryFrame, mkF, argsToLocals, Value.category]; done) | rfl) ?_
  refine Go.iloadN K (q := 1) rfl d18_0 rfl ?_
  refine Go.iloadN K (q := 2) rfl d18_1 rfl ?_
  refine Go.icmp K (q := 18) (q' := 5) (by decide) (by decide) rfl d18_2 (fun (h1 : ¬ n = k) => ?_) (fun (h1 : n = k) => ?_)
  · skip
    refine Go.iconst K (q := 19) rfl (v := (0 : Int32)) (by decide) d18_18 ?_
    exact Go.retN K (by simp) d18_19 (by decide) (by decide) (fun _ q => q) (⟨by rw [own_ss, if_neg h1]; rfl, rfl⟩)
  · skip
    refine Go.iloadN K (q := 6) rfl d18_5 rfl ?_
    refine Go.ifc K (q := 14) (q' := 9) (by decide) (by decide) rfl d18_6 (fun (h2 : n = (0 : Int32)) => ?_) (fun (h2 : ¬ n = (0 : Int32)) => ?_)
    · skip
      refine Go.iconst K (q := 15) rfl (v := (1 : Int32)) (by decide) d18_14 ?_
      refine Go.goto K (q := 19) (by decide) (by decide) d18_15 ?_
      exact Go.retN K (by simp) d18_19 (by decide) (by decide) (fun _ q => q) (⟨by rw [own_ss, if_pos h1, if_pos h2]; rfl, rfl⟩)
    · skip
      refine Go.iloadN K (q := 10) rfl d18_9 rfl ?_
      refine Go.iloadN K (q := 11) rfl d18_10 rfl ?_
      refine Go.icmp K (q := 18) (q' := 14) (by decide) (by decide) rfl d18_11 (fun (h3 : ¬ x = y) => ?_) (fun (h3 : x = y) => ?_)
      · skip
        refine Go.iconst K (q := 19) rfl (v := (0 : Int32)) (by decide) d18_18 ?_
        exact Go.retN K (by simp) d18_19 (by decide) (by decide) (fun _ q => q) (⟨by rw [own_ss, if_pos h1, if_neg h2, if_neg h3]; rfl, rfl⟩)
      · skip
        refine Go.iconst K (q := 15) rfl (v := (1 : Int32)) (by decide) d18_14 ?_
        refine Go.goto K (q := 19) (by decide) (by decide) d18_15 ?_
        exact Go.retN K (by simp) d18_19 (by decide) (by decide) (fun _ q => q) (⟨by rw [own_ss, if_pos h1, if_neg h2, if_pos h3]; rfl, rfl⟩)
set_option maxRecDepth 65536 in
set_option maxHeartbeats 40000000 in
theorem c_rnn (l : Launch) (Z : State) (a0 : Array Value) (hw : ∀ d ∈ tables_1, d.before a0 Z = true) (xs : List Addr) (n0 : Nat) (h : Heap) (Z0 : n0 ≤ h.size) (a b : Addr) :
    Ctr l Z consts_1 xs n0 (⟨"java/util/Objects", "requireNonNull", "(Ljava/lang/Object;Ljava/lang/String;)Ljava/lang/Object;"⟩ : MethodName) jdk_31_method_11_code 2 (some (.object "java/lang/Object")) [] ({ frames := 0, cells := 0, slots := 0, locals := 0 } : Room) #[(.ref a), (.ref b)] h (fun v h' => v = some (.ref a) ∧ h = h') := by
  refine Ctr.body pn11 ?_
  intro p e s m below meth c K
  refine Go.entry (f' := (mkF m 0 #[.val (.ref a), .val (.ref b)] [])) (by first | (simp [entryFrame, mkF, argsToLocals, Value.category]; done) | rfl) ?_
  refine Go.aloadN K (q := 1) rfl d8_0 rfl rfl ?_
  refine Go.ifnonnullY K (q := 13) (by decide) (by decide) d8_1 ?_
  refine Go.aloadN K (q := 14) rfl d8_13 rfl rfl ?_
  exact Go.retA K rfl rfl d8_14 (by decide) (by decide) (fun _ q => q) (⟨rfl, rfl⟩)
set_option maxRecDepth 65536 in
set_option maxHeartbeats 40000000 in
theorem c_lo0 (l : Launch) (Z : State) (a0 : Array Value) (hw : ∀ d ∈ tables_1, d.before a0 Z = true) (xs : List Addr) (n0 : Nat) (h : Heap) (Z0 : n0 ≤ h.size) (a f : Addr) (hax : a ∈ xs) (ga : n0 ≤ a) (E : Exa Z h a "com/example/vestline/vestline/input/Location") (F0 : Fld Z h a "com/example/vestline/vestline/input/Location" "file" "Ljava/lang/String;" .null) (F1 : Fld Z h a "com/example/vestline/vestline/input/Location" "item" "Ljava/lang/String;" .null) (Ef : Exa Z h f "java/lang/String") :
    Ctr l Z consts_1 xs n0 (⟨"com/example/vestline/vestline/input/Location", "<init>", "(Ljava/lang/String;Ljava/lang/String;)V"⟩ : MethodName) prog_17_method_1_code 3 none [] ({ frames := 1, cells := 2, slots := 20, locals := 14 } : Room) #[(.ref a), (.ref f), .null] h (fun v h' => v = none ∧ Keep h h' [a] ∧ Exa Z h' a "com/example/vestline/vestline/input/Location" ∧ Fld Z h' a "com/example/vestline/vestline/input/Location" "item" "Ljava/lang/String;" .null) := by
  refine Ctr.body pn12 ?_
  intro p e s m below meth c K
  have own_atoms := own_atoms0 hw
  refine Go.entry (f' := (mkF m 0 #[.val (.ref a), .val (.ref f), .val .null] [])) (by first | (simp [entryFrame, mkF, argsToLocals, Value.category]; done) | rfl) ?_
  have K0 := Keep.refl h [a]
  refine Go.aloadN K (q := 1) rfl d7_0 rfl rfl ?_
  refine Go.initO K (q := 4) rfl (hw _ (List.mem_of_getElem? (i := 38) rfl)) (hw _ (List.mem_of_getElem? (i := 29) rfl)) (hw _ (List.mem_of_getElem? (i := 30) rfl)) rfl d7_1 (by decide) (W := 0) (Nat.le_of_eq rfl) (by decide) ?_
  refine Go.aloadN K (q := 5) rfl d7_4 rfl rfl ?_
  refine Go.aloadN K (q := 6) rfl d7_5 rfl rfl ?_
  refine Go.ldcS K (q := 8) rfl (text := "file") (by decide) (hw _ (List.mem_of_getElem? (i := 39) rfl)) own_atoms (by decide) d7_6 (n := 16) (by decide) (by decide) (cells' := 2) (slots' := 20) rfl rfl (by decide) (by decide) ?_
  intro h1 s2 N_s2 T_s2
  have K0 := K0.ext N_s2
  have E := E.ext N_s2
  have F0 := F0.ext N_s2
  have F1 := F1.ext N_s2
  have Ef := Ef.ext N_s2
  show Go p l e _ s m _ below meth c _ _ _ _ _ _ _ _ _ h1 2 20 (mkF m 8 #[.val (.ref a), .val (.ref f), .val .null] [(.ref s2), (.ref f), (.ref a)])
  refine Go.cS K (q := 11) rfl (y := (⟨"java/util/Objects", "requireNonNull", "(Ljava/lang/Object;Ljava/lang/String;)Ljava/lang/Object;"⟩ : MethodName)) (c_rnn l Z a0 hw xs n0 h1 (Nat.le_trans Z0 K0.1) f s2) (hw _ (List.mem_of_getElem? (i := 42) rfl)) (hw _ (List.mem_of_getElem? (i := 43) rfl)) (hw _ (List.mem_of_getElem? (i := 44) rfl)) (hw _ (List.mem_of_getElem? (i := 45) rfl)) (by decide) pd7 (argsL := [(.ref f), (.ref s2)]) (rest := [(.ref a)]) rfl rfl rfl rfl (W := 1) (Nat.le_of_eq rfl) (by decide) (by decide) d7_8 (cells' := 2) (slots' := 20) rfl rfl (by decide) (by decide) ?_
  intro r4 h3 hQ sz_h3
  obtain ⟨rfl, rfl⟩ := hQ
  show Go p l e _ s m _ below meth c _ _ _ _ _ _ _ _ _ h1 2 20 (mkF m 11 #[.val (.ref a), .val (.ref f), .val .null] [(.ref f), (.ref a)])
  refine Go.castY K (q := 14) rfl (hw _ (List.mem_of_getElem? (i := 46) rfl)) (Ins.self Ef) d7_11 ?_
  refine Go.putF K (q := 17) rfl (hw _ (List.mem_of_getElem? (i := 47) rfl)) Via.refl F0 E (Or.inr ⟨(hw _ (List.mem_of_getElem? (i := 48) rfl)), rfl, rfl⟩) (hw _ (List.mem_of_getElem? (i := 7) rfl)) (ty := (.object "java/lang/String")) (by decide) rfl rfl d7_14 ga hax ?_
  intro h5 W6 F0 E
  have K0 := K0.wr W6 (Or.inl List.mem_cons_self)
  have F1 := F1.other W6 (Or.inr (own_ls hw))
  refine Go.aloadN K (q := 18) rfl d7_17 rfl rfl ?_
  refine Go.aloadN K (q := 19) rfl d7_18 rfl rfl ?_
  refine Go.putF K (q := 22) rfl (hw _ (List.mem_of_getElem? (i := 49) rfl)) Via.refl F1 E (Or.inr ⟨(hw _ (List.mem_of_getElem? (i := 50) rfl)), rfl, rfl⟩) (hw _ (List.mem_of_getElem? (i := 7) rfl)) (ty := (.object "java/lang/String")) (by decide) rfl rfl d7_19 ga hax ?_
  intro h7 W8 F1 E
  have K0 := K0.wr W8 (Or.inl List.mem_cons_self)
  exact Go.retV K d7_22 (by decide) (by decide) (fun _ q => q) (⟨rfl, K0, E, F1⟩)
set_option maxRecDepth 65536 in
set_option maxHeartbeats 40000000 in
theorem c_lo1 (l : Launch) (Z : State) (a0 : Array Value) (hw : ∀ d ∈ tables_1, d.before a0 Z = true) (xs : List Addr) (n0 : Nat) (h : Heap) (Z0 : n0 ≤ h.size) (a f i : Addr) (hax : a ∈ xs) (ga : n0 ≤ a) (E : Exa Z h a "com/example/vestline/vestline/input/Location") (F0 : Fld Z h a "com/example/vestline/vestline/input/Location" "file" "Ljava/lang/String;" .null) (F1 : Fld Z h a "com/example/vestline/vestline/input/Location" "item" "Ljava/lang/String;" .null) (Ef : Exa Z h f "java/lang/String") :
    Ctr l Z consts_1 xs n0 (⟨"com/example/vestline/vestline/input/Location", "<init>", "(Ljava/lang/String;Ljava/lang/String;)V"⟩ : MethodName) prog_17_method_1_code 3 none [] ({ frames := 1, cells := 2, slots := 20, locals := 14 } : Room) #[(.ref a), (.ref f), (.ref i)] h (fun v h' => v = none ∧ Keep h h' [a] ∧ Exa Z h' a "com/example/vestline/vestline/input/Location" ∧ Fld Z h' a "com/example/vestline/vestline/input/Location" "item" "Ljava/lang/String;" (.ref i)) := by
  refine Ctr.body pn12 ?_
  intro p e s m below meth c K
  have own_atoms := own_atoms0 hw
  refine Go.entry (f' := (mkF m 0 #[.val (.ref a), .val (.ref f), .val (.ref i)] [])) (by first | (simp [entryFrame, mkF, argsToLocals, Value.category]; done) | rfl) ?_
  have K0 := Keep.refl h [a]
  refine Go.aloadN K (q := 1) rfl d7_0 rfl rfl ?_
  refine Go.initO K (q := 4) rfl (hw _ (List.mem_of_getElem? (i := 38) rfl)) (hw _ (List.mem_of_getElem? (i := 29) rfl)) (hw _ (List.mem_of_getElem? (i := 30) rfl)) rfl d7_1 (by decide) (W := 0) (Nat.le_of_eq rfl) (by decide) ?_
  refine Go.aloadN K (q := 5) rfl d7_4 rfl rfl ?_
  refine Go.aloadN K (q := 6) rfl d7_5 rfl rfl ?_
  refine Go.ldcS K (q := 8) rfl (text := "file") (by decide) (hw _ (List.mem_of_getElem? (i := 39) rfl)) own_atoms (by decide) d7_6 (n := 16) (by decide) (by decide) (cells' := 2) (slots' := 20) rfl rfl (by decide) (by decide) ?_
  intro h1 s2 N_s2 T_s2
  have K0 := K0.ext N_s2
  have E := E.ext N_s2
  have F0 := F0.ext N_s2
  have F1 := F1.ext N_s2
  have Ef := Ef.ext N_s2
  show Go p l e _ s m _ below meth c _ _ _ _ _ _ _ _ _ h1 2 20 (mkF m 8 #[.val (.ref a), .val (.ref f), .val (.ref i)] [(.ref s2), (.ref f), (.ref a)])
  refine Go.cS K (q := 11) rfl (y := (⟨"java/util/Objects", "requireNonNull", "(Ljava/lang/Object;Ljava/lang/String;)Ljava/lang/Object;"⟩ : MethodName)) (c_rnn l Z a0 hw xs n0 h1 (Nat.le_trans Z0 K0.1) f s2) (hw _ (List.mem_of_getElem? (i := 42) rfl)) (hw _ (List.mem_of_getElem? (i := 43) rfl)) (hw _ (List.mem_of_getElem? (i := 44) rfl)) (hw _ (List.mem_of_getElem? (i := 45) rfl)) (by decide) pd7 (argsL := [(.ref f), (.ref s2)]) (rest := [(.ref a)]) rfl rfl rfl rfl (W := 1) (Nat.le_of_eq rfl) (by decide) (by decide) d7_8 (cells' := 2) (slots' := 20) rfl rfl (by decide) (by decide) ?_
  intro r4 h3 hQ sz_h3
  obtain ⟨rfl, rfl⟩ := hQ
  show Go p l e _ s m _ below meth c _ _ _ _ _ _ _ _ _ h1 2 20 (mkF m 11 #[.val (.ref a), .val (.ref f), .val (.ref i)] [(.ref f), (.ref a)])
  refine Go.castY K (q := 14) rfl (hw _ (List.mem_of_getElem? (i := 46) rfl)) (Ins.self Ef) d7_11 ?_
  refine Go.putF K (q := 17) rfl (hw _ (List.mem_of_getElem? (i := 47) rfl)) Via.refl F0 E (Or.inr ⟨(hw _ (List.mem_of_getElem? (i := 48) rfl)), rfl, rfl⟩) (hw _ (List.mem_of_getElem? (i := 7) rfl)) (ty := (.object "java/lang/String")) (by decide) rfl rfl d7_14 ga hax ?_
  intro h5 W6 F0 E
  have K0 := K0.wr W6 (Or.inl List.mem_cons_self)
  have F1 := F1.other W6 (Or.inr (own_ls hw))
  refine Go.aloadN K (q := 18) rfl d7_17 rfl rfl ?_
  refine Go.aloadN K (q := 19) rfl d7_18 rfl rfl ?_
  refine Go.putF K (q := 22) rfl (hw _ (List.mem_of_getElem? (i := 49) rfl)) Via.refl F1 E (Or.inr ⟨(hw _ (List.mem_of_getElem? (i := 50) rfl)), rfl, rfl⟩) (hw _ (List.mem_of_getElem? (i := 7) rfl)) (ty := (.object "java/lang/String")) (by decide) rfl rfl d7_19 ga hax ?_
  intro h7 W8 F1 E
  have K0 := K0.wr W8 (Or.inl List.mem_cons_self)
  exact Go.retV K d7_22 (by decide) (by decide) (fun _ q => q) (⟨rfl, K0, E, F1⟩)
set_option maxRecDepth 65536 in
set_option maxHeartbeats 40000000 in
theorem c_loc (l : Launch) (Z : State) (a0 : Array Value) (hw : ∀ d ∈ tables_1, d.before a0 Z = true) (xs : List Addr) (n0 : Nat) (h : Heap) (Z0 : n0 ≤ h.size) (x ch : Int32) (hch : ¬ ch.toUInt32.toUInt16.toUInt32.toInt32 < 0 ∧ ¬ (255 : Int32) < ch.toUInt32.toUInt16.toUInt32.toInt32) (z : Int32) (Sa : Sta Z h "java/lang/String" "COMPACT_STRINGS" "Z" (.int z)) (hz : ¬ z = 0) :
    Ctr l Z consts_1 xs n0 (⟨"com/example/vestline/vestline/ocf/FindingEqualsPinLaw", "location", "(II)Lcom/example/vestline/vestline/input/Location;"⟩ : MethodName) method_6_code 3 (some (.object "com/example/vestline/vestline/input/Location")) [] ({ frames := 4, cells := 11, slots := 39, locals := 56 } : Room) #[(.int x), (.int ch)] h (fun v h' => ∃ (lo : Addr) (iv : Value), v = some (.ref lo) ∧ Ext h h' ∧ Exa Z h' lo "com/example/vestline/vestline/input/Location" ∧ Fld Z h' lo "com/example/vestline/vestline/input/Location" "item" "Ljava/lang/String;" iv ∧ ((iv = .null ∧ own_item x = []) ∨ ∃ i, iv = .ref i ∧ Str Z h' i (own_item x))) := by
  refine Ctr.body pn13 ?_
  intro p e s m below meth c K
  refine Go.entry (f' := (mkF m 0 #[.val (.int x), .val (.int ch), .unset] [])) (by first | (simp [entryFrame, mkF, argsToLocals, Value.category]; done) | rfl) ?_
  have E0 := Ext.refl h
  refine Go.aconstNull K (q := 1) rfl d1_0 ?_
  refine Go.astoreN K (q := 2) rfl (L' := #[.val (.int x), .val (.int ch), .val .null]) d1_1 rfl rfl ?_
  refine Go.iloadN K (q := 3) rfl d1_2 rfl ?_
  refine Go.bipush K (q := 5) rfl (v := (9 : Int32)) (by decide) d1_3 ?_
  refine Go.iushr K (q := 6) rfl d1_5 ?_
  refine Go.iconst K (q := 7) rfl (v := (3 : Int32)) (by decide) d1_6 ?_
  refine Go.iand K (q := 8) rfl d1_7 ?_
  refine Go.ifc K (q := 27) (q' := 11) (by decide) (by decide) rfl d1_8 (fun (hc : (((x.toUInt32 >>> ((9 : Int32) &&& 31).toUInt32).toInt32) &&& (3 : Int32)) = (0 : Int32)) => ?_) (fun (hc : ¬ (((x.toUInt32 >>> ((9 : Int32) &&& 31).toUInt32).toInt32) &&& (3 : Int32)) = (0 : Int32)) => ?_)
  · skip
    refine Go.new K (q := 30) rfl (hw _ (List.mem_of_getElem? (i := 6) rfl)) (hw _ (List.mem_of_getElem? (i := 7) rfl)) (hw _ (List.mem_of_getElem? (i := 8) rfl)) d1_27 (cells' := 1) (slots' := 2) rfl rfl (by decide) (by decide) ?_
    intro h1 lo g_lo N_lo X_lo D_lo
    have ge_E0_lo : h.size ≤ lo := Nat.le_trans E0.1 (Nat.le_of_eq g_lo.symm)
    have E0 := Ext.trans E0 N_lo
    have F0 : Fld Z h1 lo "com/example/vestline/vestline/input/Location" "file" "Ljava/lang/String;" .null := D_lo (Or.inr (hw _ (List.mem_of_getElem? (i := 48) rfl))) (ty := .object "java/lang/String") (by decide)
    have F1 : Fld Z h1 lo "com/example/vestline/vestline/input/Location" "item" "Ljava/lang/String;" .null := D_lo (Or.inr (hw _ (List.mem_of_getElem? (i := 50) rfl))) (ty := .object "java/lang/String") (by decide)
    have n_lo : n0 ≤ lo := Nat.le_trans Z0 ge_E0_lo
    refine Go.dup K (q := 31) rfl d1_30 rfl ?_
    refine Go.iloadN K (q := 32) rfl d1_31 rfl ?_
    refine Go.i2c K (q := 33) rfl d1_32 ?_
    refine Go.cS K (q := 36) rfl (y := (⟨"java/lang/String", "valueOf", "(C)Ljava/lang/String;"⟩ : MethodName)) (c_val l Z a0 hw (lo :: xs) n0 h1 (Nat.le_trans Z0 E0.1) ch.toUInt32.toUInt16.toUInt32.toInt32 hch z (Sa.ext E0) hz) (hw _ (List.mem_of_getElem? (i := 9) rfl)) (hw _ (List.mem_of_getElem? (i := 10) rfl)) (hw _ (List.mem_of_getElem? (i := 11) rfl)) (hw _ (List.mem_of_getElem? (i := 12) rfl)) (by decide) pd5 (argsL := [(.int ch.toUInt32.toUInt16.toUInt32.toInt32)]) (rest := [(.ref lo), (.ref lo)]) rfl rfl rfl rfl (W := 2) (Nat.le_of_eq rfl) (by decide) (by decide) d1_33 (cells' := 3) (slots' := 7) rfl rfl (by decide) (by decide) ?_
    intro r3 h2 hQ sz_h2
    obtain ⟨f, rfl, N_f, S_f⟩ := hQ
    have E0 := Ext.trans E0 N_f
    show Go p l e _ s m _ below meth c _ _ _ _ _ _ _ _ _ h2 3 7 (mkF m 36 #[.val (.int x), .val (.int ch), .val .null] [(.ref f), (.ref lo), (.ref lo)])
    have X_lo := X_lo.ext N_f
    have F0 := F0.ext N_f
    have F1 := F1.ext N_f
    refine Go.aloadN K (q := 37) rfl d1_36 rfl rfl ?_
    refine Go.cI K (q := 40) rfl (y := (⟨"com/example/vestline/vestline/input/Location", "<init>", "(Ljava/lang/String;Ljava/lang/String;)V"⟩ : MethodName)) (c_lo0 l Z a0 hw (lo :: xs) n0 h2 (Nat.le_trans Z0 E0.1) lo f List.mem_cons_self n_lo X_lo F0 F1 S_f.exa) rfl (hw _ (List.mem_of_getElem? (i := 35) rfl)) (hw _ (List.mem_of_getElem? (i := 36) rfl)) (hw _ (List.mem_of_getElem? (i := 8) rfl)) (hw _ (List.mem_of_getElem? (i := 37) rfl)) (by decide) (a := lo) pd8 (argsL := [(.ref f), .null]) (rest := [(.ref lo)]) rfl rfl rfl rfl (W := 1) (Nat.le_of_eq rfl) (by decide) (by decide) d1_37 (cells' := 5) (slots' := 27) rfl rfl (by decide) (by decide) ?_
    intro r5 h4 hQ sz_h4
    obtain ⟨rfl, KL, X2, F2⟩ := hQ
    have E0 := Ext.keep E0 KL (allS ge_E0_lo all0)
    show Go p l e _ s m _ below meth c _ _ _ _ _ _ _ _ _ h4 5 27 (mkF m 40 #[.val (.int x), .val (.int ch), .val .null] [(.ref lo)])
    exact Go.retA K rfl rfl d1_40 (by decide) (by decide) (fun _ q => (List.mem_cons_of_mem _ q)) (⟨lo, _, rfl, E0, X2, F2, Or.inl ⟨rfl, own_item0 hc⟩⟩)
  · skip
    refine Go.iloadN K (q := 12) rfl d1_11 rfl ?_
    refine Go.cS K (q := 15) rfl (y := (⟨"com/example/vestline/vestline/ocf/FindingEqualsPinLaw", "itemLen", "(I)I"⟩ : MethodName)) (c_il l Z a0 hw xs n0 h Z0 x) (hw _ (List.mem_of_getElem? (i := 104) rfl)) (hw _ (List.mem_of_getElem? (i := 105) rfl)) (hw _ (List.mem_of_getElem? (i := 4) rfl)) (hw _ (List.mem_of_getElem? (i := 106) rfl)) (by decide) pd9 (argsL := [(.int x)]) (rest := []) rfl rfl rfl rfl (W := 0) (Nat.le_of_eq rfl) (by decide) (by decide) d1_12 (cells' := 0) (slots' := 0) rfl rfl (by decide) (by decide) ?_
    intro r7 h6 hQ sz_h6
    obtain ⟨rfl, rfl⟩ := hQ
    show Go p l e _ s m _ below meth c _ _ _ _ _ _ _ _ _ h 0 0 (mkF m 15 #[.val (.int x), .val (.int ch), .val .null] [(.int (own_il x))])
    refine Go.iloadN K (q := 16) rfl d1_15 rfl ?_
    refine Go.bipush K (q := 18) rfl (v := (11 : Int32)) (by decide) d1_16 ?_
    refine Go.iushr K (q := 19) rfl d1_18 ?_
    refine Go.sipush K (q := 22) rfl (v := (255 : Int32)) (by decide) d1_19 ?_
    refine Go.iand K (q := 23) rfl d1_22 ?_
    refine Go.cS K (q := 26) rfl (y := (⟨"com/example/vestline/vestline/ocf/FindingEqualsPinLaw", "str", "(II)Ljava/lang/String;"⟩ : MethodName)) (c_str l Z a0 hw xs n0 h Z0 (own_il x) (((x.toUInt32 >>> ((11 : Int32) &&& 31).toUInt32).toInt32) &&& (255 : Int32)) (own_c8 _) z Sa hz) (hw _ (List.mem_of_getElem? (i := 57) rfl)) (hw _ (List.mem_of_getElem? (i := 58) rfl)) (hw _ (List.mem_of_getElem? (i := 4) rfl)) (hw _ (List.mem_of_getElem? (i := 59) rfl)) (by decide) pd10 (argsL := [(.int (own_il x)), (.int (((x.toUInt32 >>> ((11 : Int32) &&& 31).toUInt32).toInt32) &&& (255 : Int32)))]) (rest := []) rfl rfl rfl rfl (W := 0) (Nat.le_of_eq rfl) (by decide) (by decide) d1_23 (cells' := 6) (slots' := 12) rfl rfl (by decide) (by decide) ?_
    intro r9 h8 hQ sz_h8
    obtain ⟨i, rfl, N_i, S_i⟩ := hQ
    have E0 := Ext.trans E0 N_i
    show Go p l e _ s m _ below meth c _ _ _ _ _ _ _ _ _ h8 6 12 (mkF m 26 #[.val (.int x), .val (.int ch), .val .null] [(.ref i)])
    refine Go.astoreN K (q := 27) rfl (L' := #[.val (.int x), .val (.int ch), .val (.ref i)]) d1_26 rfl rfl ?_
    refine Go.new K (q := 30) rfl (hw _ (List.mem_of_getElem? (i := 6) rfl)) (hw _ (List.mem_of_getElem? (i := 7) rfl)) (hw _ (List.mem_of_getElem? (i := 8) rfl)) d1_27 (cells' := 7) (slots' := 14) rfl rfl (by decide) (by decide) ?_
    intro h10 lo g_lo N_lo X_lo D_lo
    have ge_E0_lo : h.size ≤ lo := Nat.le_trans E0.1 (Nat.le_of_eq g_lo.symm)
    have E0 := Ext.trans E0 N_lo
    have F0 : Fld Z h10 lo "com/example/vestline/vestline/input/Location" "file" "Ljava/lang/String;" .null := D_lo (Or.inr (hw _ (List.mem_of_getElem? (i := 48) rfl))) (ty := .object "java/lang/String") (by decide)
    have F1 : Fld Z h10 lo "com/example/vestline/vestline/input/Location" "item" "Ljava/lang/String;" .null := D_lo (Or.inr (hw _ (List.mem_of_getElem? (i := 50) rfl))) (ty := .object "java/lang/String") (by decide)
    have S_i := S_i.ext N_lo
    have n_lo : n0 ≤ lo := Nat.le_trans Z0 ge_E0_lo
    refine Go.dup K (q := 31) rfl d1_30 rfl ?_
    refine Go.iloadN K (q := 32) rfl d1_31 rfl ?_
    refine Go.i2c K (q := 33) rfl d1_32 ?_
    refine Go.cS K (q := 36) rfl (y := (⟨"java/lang/String", "valueOf", "(C)Ljava/lang/String;"⟩ : MethodName)) (c_val l Z a0 hw (lo :: xs) n0 h10 (Nat.le_trans Z0 E0.1) ch.toUInt32.toUInt16.toUInt32.toInt32 hch z (Sa.ext E0) hz) (hw _ (List.mem_of_getElem? (i := 9) rfl)) (hw _ (List.mem_of_getElem? (i := 10) rfl)) (hw _ (List.mem_of_getElem? (i := 11) rfl)) (hw _ (List.mem_of_getElem? (i := 12) rfl)) (by decide) pd5 (argsL := [(.int ch.toUInt32.toUInt16.toUInt32.toInt32)]) (rest := [(.ref lo), (.ref lo)]) rfl rfl rfl rfl (W := 2) (Nat.le_of_eq rfl) (by decide) (by decide) d1_33 (cells' := 9) (slots' := 19) rfl rfl (by decide) (by decide) ?_
    intro r12 h11 hQ sz_h11
    obtain ⟨f, rfl, N_f, S_f⟩ := hQ
    have E0 := Ext.trans E0 N_f
    show Go p l e _ s m _ below meth c _ _ _ _ _ _ _ _ _ h11 9 19 (mkF m 36 #[.val (.int x), .val (.int ch), .val (.ref i)] [(.ref f), (.ref lo), (.ref lo)])
    have X_lo := X_lo.ext N_f
    have F0 := F0.ext N_f
    have F1 := F1.ext N_f
    have S_i := S_i.ext N_f
    refine Go.aloadN K (q := 37) rfl d1_36 rfl rfl ?_
    refine Go.cI K (q := 40) rfl (y := (⟨"com/example/vestline/vestline/input/Location", "<init>", "(Ljava/lang/String;Ljava/lang/String;)V"⟩ : MethodName)) (c_lo1 l Z a0 hw (lo :: xs) n0 h11 (Nat.le_trans Z0 E0.1) lo f i List.mem_cons_self n_lo X_lo F0 F1 S_f.exa) rfl (hw _ (List.mem_of_getElem? (i := 35) rfl)) (hw _ (List.mem_of_getElem? (i := 36) rfl)) (hw _ (List.mem_of_getElem? (i := 8) rfl)) (hw _ (List.mem_of_getElem? (i := 37) rfl)) (by decide) (a := lo) pd8 (argsL := [(.ref f), (.ref i)]) (rest := [(.ref lo)]) rfl rfl rfl rfl (W := 1) (Nat.le_of_eq rfl) (by decide) (by decide) d1_37 (cells' := 11) (slots' := 39) rfl rfl (by decide) (by decide) ?_
    intro r14 h13 hQ sz_h13
    obtain ⟨rfl, KL, X2, F2⟩ := hQ
    have E0 := Ext.keep E0 KL (allS ge_E0_lo all0)
    show Go p l e _ s m _ below meth c _ _ _ _ _ _ _ _ _ h13 11 39 (mkF m 40 #[.val (.int x), .val (.int ch), .val (.ref i)] [(.ref lo)])
    have S_i := S_i.keepO X_lo (by decide) (hw _ (List.mem_of_getElem? (i := 7) rfl)) KL
    exact Go.retA K rfl rfl d1_40 (by decide) (by decide) (fun _ q => (List.mem_cons_of_mem _ q)) (⟨lo, _, rfl, E0, X2, F2, Or.inr ⟨i, rfl, S_i⟩⟩)
set_option maxRecDepth 65536 in
set_option maxHeartbeats 40000000 in
theorem c_kind (l : Launch) (Z : State) (a0 : Array Value) (hw : ∀ d ∈ tables_1, d.before a0 Z = true) (xs : List Addr) (n0 : Nat) (h : Heap) (Z0 : n0 ≤ h.size) (x : Int32) (k0 k1 k2 k3 : Addr) (T0 : Sta Z h "com/example/vestline/vestline/ocf/Finding$Kind" "SCHEMA" "Lcom/example/vestline/vestline/ocf/Finding$Kind;" (.ref k0)) (T1 : Sta Z h "com/example/vestline/vestline/ocf/Finding$Kind" "MD5" "Lcom/example/vestline/vestline/ocf/Finding$Kind;" (.ref k1)) (T2 : Sta Z h "com/example/vestline/vestline/ocf/Finding$Kind" "MISSING" "Lcom/example/vestline/vestline/ocf/Finding$Kind;" (.ref k2)) (T3 : Sta Z h "com/example/vestline/vestline/ocf/Finding$Kind" "DOCUMENT" "Lcom/example/vestline/vestline/ocf/Finding$Kind;" (.ref k3)) :
    Ctr l Z consts_1 xs n0 (⟨"com/example/vestline/vestline/ocf/FindingEqualsPinLaw", "kind", "(I)Lcom/example/vestline/vestline/ocf/Finding$Kind;"⟩ : MethodName) method_5_code 1 (some (.object "com/example/vestline/vestline/ocf/Finding$Kind")) [] ({ frames := 0, cells := 0, slots := 0, locals := 0 } : Room) #[(.int x)] h (fun v h' => v = some (.ref (own_kd k0 k1 k2 k3 x)) ∧ h = h') := by
  refine Ctr.body pn14 ?_
  intro p e s m below meth c K
  refine Go.entry (f' := (mkF m 0 #[.val (.int x)] [])) (by first | (simp [entryFrame, mkF, argsToLocals, Value.category]; done) | rfl) ?_
  refine Go.iloadN K (q := 1) rfl d13_0 rfl ?_
  refine Go.ifc K (q := 8) (q' := 4) (by decide) (by decide) rfl d13_1 (fun (g0 : ¬ x = (0 : Int32)) => ?_) (fun (g0 : x = (0 : Int32)) => ?_)
  · skip
    refine Go.iloadN K (q := 9) rfl d13_8 rfl ?_
    refine Go.iconst K (q := 10) rfl (v := (1 : Int32)) (by decide) d13_9 ?_
    refine Go.icmp K (q := 17) (q' := 13) (by decide) (by decide) rfl d13_10 (fun (g1 : ¬ x = (1 : Int32)) => ?_) (fun (g1 : x = (1 : Int32)) => ?_)
    · skip
      refine Go.iloadN K (q := 18) rfl d13_17 rfl ?_
      refine Go.iconst K (q := 19) rfl (v := (2 : Int32)) (by decide) d13_18 ?_
      refine Go.icmp K (q := 26) (q' := 22) (by decide) (by decide) rfl d13_19 (fun (g2 : ¬ x = (2 : Int32)) => ?_) (fun (g2 : x = (2 : Int32)) => ?_)
      · skip
        refine Go.getS K (q := 29) rfl (hw _ (List.mem_of_getElem? (i := 122) rfl)) Via.refl (T3) d13_26 ?_
        exact Go.retA K rfl rfl d13_29 (by decide) (by decide) (fun _ q => q) (⟨by rw [own_kd, if_neg g0, if_neg g1, if_neg g2], rfl⟩)
      · skip
        refine Go.getS K (q := 25) rfl (hw _ (List.mem_of_getElem? (i := 124) rfl)) Via.refl (T2) d13_22 ?_
        exact Go.retA K rfl rfl d13_25 (by decide) (by decide) (fun _ q => q) (⟨by rw [own_kd, if_neg g0, if_neg g1, if_pos g2], rfl⟩)
    · skip
      refine Go.getS K (q := 16) rfl (hw _ (List.mem_of_getElem? (i := 107) rfl)) Via.refl (T1) d13_13 ?_
      exact Go.retA K rfl rfl d13_16 (by decide) (by decide) (fun _ q => q) (⟨by rw [own_kd, if_neg g0, if_pos g1], rfl⟩)
  · skip
    refine Go.getS K (q := 7) rfl (hw _ (List.mem_of_getElem? (i := 72) rfl)) Via.refl (T0) d13_4 ?_
    exact Go.retA K rfl rfl d13_7 (by decide) (by decide) (fun _ q => q) (⟨by rw [own_kd, if_pos g0], rfl⟩)
set_option maxRecDepth 65536 in
set_option maxHeartbeats 40000000 in
theorem c_it0 (l : Launch) (Z : State) (a0 : Array Value) (hw : ∀ d ∈ tables_1, d.before a0 Z = true) (xs : List Addr) (n0 : Nat) (h : Heap) (Z0 : n0 ≤ h.size) (a : Addr) (F : Fld Z h a "com/example/vestline/vestline/input/Location" "item" "Ljava/lang/String;" .null) :
    Ctr l Z consts_1 xs n0 (⟨"com/example/vestline/vestline/input/Location", "item", "()Ljava/lang/String;"⟩ : MethodName) prog_17_method_3_code 1 (some (.object "java/lang/String")) [] ({ frames := 0, cells := 0, slots := 0, locals := 0 } : Room) #[(.ref a)] h (fun v h' => v = some .null ∧ h = h') := by
  refine Ctr.body pn15 ?_
  intro p e s m below meth c K
  refine Go.entry (f' := (mkF m 0 #[.val (.ref a)] [])) (by first | (simp [entryFrame, mkF, argsToLocals, Value.category]; done) | rfl) ?_
  refine Go.aloadN K (q := 1) rfl d15_0 rfl rfl ?_
  refine Go.getF K (q := 4) rfl (hw _ (List.mem_of_getElem? (i := 49) rfl)) Via.refl (F) d15_1 ?_
  exact Go.retA K rfl rfl d15_4 (by decide) (by decide) (fun _ q => q) (⟨rfl, rfl⟩)
set_option maxRecDepth 65536 in
set_option maxHeartbeats 40000000 in
theorem c_it1 (l : Launch) (Z : State) (a0 : Array Value) (hw : ∀ d ∈ tables_1, d.before a0 Z = true) (xs : List Addr) (n0 : Nat) (h : Heap) (Z0 : n0 ≤ h.size) (a i : Addr) (F : Fld Z h a "com/example/vestline/vestline/input/Location" "item" "Ljava/lang/String;" (.ref i)) :
    Ctr l Z consts_1 xs n0 (⟨"com/example/vestline/vestline/input/Location", "item", "()Ljava/lang/String;"⟩ : MethodName) prog_17_method_3_code 1 (some (.object "java/lang/String")) [] ({ frames := 0, cells := 0, slots := 0, locals := 0 } : Room) #[(.ref a)] h (fun v h' => v = some (.ref i) ∧ h = h') := by
  refine Ctr.body pn15 ?_
  intro p e s m below meth c K
  refine Go.entry (f' := (mkF m 0 #[.val (.ref a)] [])) (by first | (simp [entryFrame, mkF, argsToLocals, Value.category]; done) | rfl) ?_
  refine Go.aloadN K (q := 1) rfl d15_0 rfl rfl ?_
  refine Go.getF K (q := 4) rfl (hw _ (List.mem_of_getElem? (i := 49) rfl)) Via.refl (F) d15_1 ?_
  exact Go.retA K rfl rfl d15_4 (by decide) (by decide) (fun _ q => q) (⟨rfl, rfl⟩)
set_option maxRecDepth 65536 in
set_option maxHeartbeats 40000000 in
theorem c_fi0 (l : Launch) (Z : State) (a0 : Array Value) (hw : ∀ d ∈ tables_1, d.before a0 Z = true) (xs : List Addr) (n0 : Nat) (h : Heap) (Z0 : n0 ≤ h.size) (a f lo k d : Addr) (hax : a ∈ xs) (ga : n0 ≤ a) (E : Exa Z h a "com/example/vestline/vestline/ocf/Finding") (F0 : Fld Z h a "com/example/vestline/vestline/ocf/Finding" "file" "Ljava/lang/String;" .null) (F1 : Fld Z h a "com/example/vestline/vestline/ocf/Finding" "item" "Ljava/lang/String;" .null) (F2 : Fld Z h a "com/example/vestline/vestline/ocf/Finding" "kind" "Lcom/example/vestline/vestline/ocf/Finding$Kind;" .null) (F3 : Fld Z h a "com/example/vestline/vestline/ocf/Finding" "detail" "Ljava/lang/String;" .null) (F4 : Fld Z h a "com/example/vestline/vestline/ocf/Finding" "location" "Lcom/example/vestline/vestline/input/Location;" .null) (XL : Exa Z h lo "com/example/vestline/vestline/input/Location") (G : Fld Z h lo "com/example/vestline/vestline/input/Location" "item" "Ljava/lang/String;" .null) :
    Ctr l Z consts_1 xs n0 (⟨"com/example/vestline/vestline/ocf/Finding", "<init>", "(Ljava/lang/String;Lcom/example/vestline/vestline/input/Location;Lcom/example/vestline/vestline/ocf/Finding$Kind;Ljava/lang/String;)V"⟩ : MethodName) prog_22_method_1_code 5 none [] ({ frames := 1, cells := 2, slots := 4, locals := 13 } : Room) #[(.ref a), (.ref f), (.ref lo), (.ref k), (.ref d)] h (fun v h' => ∃ i, v = none ∧ Keep h h' [a] ∧ Exa Z h' a "com/example/vestline/vestline/ocf/Finding" ∧ Fld Z h' a "com/example/vestline/vestline/ocf/Finding" "file" "Ljava/lang/String;" (.ref f) ∧ Fld Z h' a "com/example/vestline/vestline/ocf/Finding" "item" "Ljava/lang/String;" (.ref i) ∧ Fld Z h' a "com/example/vestline/vestline/ocf/Finding" "kind" "Lcom/example/vestline/vestline/ocf/Finding$Kind;" (.ref k) ∧ Fld Z h' a "com/example/vestline/vestline/ocf/Finding" "detail" "Ljava/lang/String;" (.ref d) ∧ Str Z h' i []) := by
  refine Ctr.body pn16 ?_
  intro p e s m below meth c K
  have own_atoms := own_atoms0 hw
  refine Go.entry (f' := (mkF m 0 #[.val (.ref a), .val (.ref f), .val (.ref lo), .val (.ref k), .val (.ref d)] [])) (by first | (simp [entryFrame, mkF, argsToLocals, Value.category]; done) | rfl) ?_
  have K0 := Keep.refl h [a]
  refine Go.aloadN K (q := 1) rfl d14_0 rfl rfl ?_
  refine Go.initO K (q := 4) rfl (hw _ (List.mem_of_getElem? (i := 78) rfl)) (hw _ (List.mem_of_getElem? (i := 29) rfl)) (hw _ (List.mem_of_getElem? (i := 30) rfl)) rfl d14_1 (by decide) (W := 0) (Nat.le_of_eq rfl) (by decide) ?_
  refine Go.aloadN K (q := 5) rfl d14_4 rfl rfl ?_
  refine Go.aloadN K (q := 6) rfl d14_5 rfl rfl ?_
  have nla : lo ≠ a := fun q => (Exa.ne E XL (by decide)) q.symm
  refine Go.putF K (q := 9) rfl (hw _ (List.mem_of_getElem? (i := 79) rfl)) Via.refl F0 E (Or.inr ⟨(hw _ (List.mem_of_getElem? (i := 80) rfl)), rfl, rfl⟩) (hw _ (List.mem_of_getElem? (i := 55) rfl)) (ty := (.object "java/lang/String")) (by decide) rfl rfl d14_6 ga hax ?_
  intro h1 W2 F0 E
  have K0 := K0.wr W2 (Or.inl List.mem_cons_self)
  have F1 := F1.other W2 (Or.inr (own_fs10 hw))
  have F2 := F2.other W2 (Or.inr (own_fs20 hw))
  have F3 := F3.other W2 (Or.inr (own_fs30 hw))
  have F4 := F4.other W2 (Or.inr (own_fs40 hw))
  have G := G.other W2 (Or.inl nla)
  have XL := XL.wr W2
  refine Go.aloadN K (q := 10) rfl d14_9 rfl rfl ?_
  refine Go.aloadN K (q := 11) rfl d14_10 rfl rfl ?_
  show Go p l e _ s m _ below meth c _ _ _ _ _ _ _ _ _ h1 0 0 (mkF m 11 #[.val (.ref a), .val (.ref f), .val (.ref lo), .val (.ref k), .val (.ref d)] [(.ref lo), (.ref a)])
  refine Go.cV K (q := 14) rfl (y := (⟨"com/example/vestline/vestline/input/Location", "item", "()Ljava/lang/String;"⟩ : MethodName)) (z := (⟨"com/example/vestline/vestline/input/Location", "item", "()Ljava/lang/String;"⟩ : MethodName)) (c_it0 l Z a0 hw xs n0 h1 (Nat.le_trans Z0 K0.1) lo G) (hw _ (List.mem_of_getElem? (i := 81) rfl)) (hw _ (List.mem_of_getElem? (i := 82) rfl)) (nfS (hw _ (List.mem_of_getElem? (i := 84) rfl))) (hw _ (List.mem_of_getElem? (i := 84) rfl)) (hw _ (List.mem_of_getElem? (i := 83) rfl)) (hw _ (List.mem_of_getElem? (i := 8) rfl)) (hw _ (List.mem_of_getElem? (i := 85) rfl)) (by decide) XL pd11 (argsL := []) (rest := [(.ref a)]) rfl rfl rfl rfl (W := 1) (Nat.le_of_eq rfl) (by decide) (by decide) d14_11 (cells' := 0) (slots' := 0) rfl rfl (by decide) (by decide) ?_
  intro r4 h3 hQ sz_h3
  obtain ⟨rfl, rfl⟩ := hQ
  show Go p l e _ s m _ below meth c _ _ _ _ _ _ _ _ _ h1 0 0 (mkF m 14 #[.val (.ref a), .val (.ref f), .val (.ref lo), .val (.ref k), .val (.ref d)] [.null, (.ref a)])
  refine Go.ifnonnullN K (q := 17) rfl d14_14 ?_
  refine Go.ldcS K (q := 19) rfl (text := "") (by decide) (hw _ (List.mem_of_getElem? (i := 86) rfl)) own_atoms (by decide) d14_17 (n := 0) (by decide) (by decide) (cells' := 2) (slots' := 4) rfl rfl (by decide) (by decide) ?_
  intro h5 s6 N_s6 T_s6
  have K0 := K0.ext N_s6
  have E := E.ext N_s6
  have F0 := F0.ext N_s6
  have F1 := F1.ext N_s6
  have F2 := F2.ext N_s6
  have F3 := F3.ext N_s6
  have F4 := F4.ext N_s6
  have G := G.ext N_s6
  have XL := XL.ext N_s6
  have SI : Str Z h5 s6 (chs "") := Str.lit (by decide) (by decide) T_s6
  have EB := E
  refine Go.goto K (q := 26) (by decide) (by decide) d14_19 ?_
  refine Go.putF K (q := 29) rfl (hw _ (List.mem_of_getElem? (i := 87) rfl)) Via.refl F1 E (Or.inr ⟨(hw _ (List.mem_of_getElem? (i := 88) rfl)), rfl, rfl⟩) (hw _ (List.mem_of_getElem? (i := 55) rfl)) (ty := (.object "java/lang/String")) (by decide) rfl rfl d14_26 ga hax ?_
  intro h7 W8 F1 E
  have K0 := K0.wr W8 (Or.inl List.mem_cons_self)
  have F0 := F0.other W8 (Or.inr (own_fs01 hw))
  have F2 := F2.other W8 (Or.inr (own_fs21 hw))
  have F3 := F3.other W8 (Or.inr (own_fs31 hw))
  have F4 := F4.other W8 (Or.inr (own_fs41 hw))
  have G := G.other W8 (Or.inl nla)
  have XL := XL.wr W8
  have SI := SI.keepO EB (by decide) (hw _ (List.mem_of_getElem? (i := 55) rfl)) (Keep.of_wr W8)
  refine Go.aloadN K (q := 30) rfl d14_29 rfl rfl ?_
  refine Go.aloadN K (q := 31) rfl d14_30 rfl rfl ?_
  have EB := E
  refine Go.putF K (q := 34) rfl (hw _ (List.mem_of_getElem? (i := 89) rfl)) Via.refl F2 E (Or.inr ⟨(hw _ (List.mem_of_getElem? (i := 90) rfl)), rfl, rfl⟩) (hw _ (List.mem_of_getElem? (i := 55) rfl)) (ty := (.object "com/example/vestline/vestline/ocf/Finding$Kind")) (by decide) rfl rfl d14_31 ga hax ?_
  intro h9 W10 F2 E
  have K0 := K0.wr W10 (Or.inl List.mem_cons_self)
  have F0 := F0.other W10 (Or.inr (own_fs02 hw))
  have F1 := F1.other W10 (Or.inr (own_fs12 hw))
  have F3 := F3.other W10 (Or.inr (own_fs32 hw))
  have F4 := F4.other W10 (Or.inr (own_fs42 hw))
  have G := G.other W10 (Or.inl nla)
  have XL := XL.wr W10
  have SI := SI.keepO EB (by decide) (hw _ (List.mem_of_getElem? (i := 55) rfl)) (Keep.of_wr W10)
  refine Go.aloadN K (q := 35) rfl d14_34 rfl rfl ?_
  refine Go.aload K (q := 37) rfl d14_35 rfl rfl ?_
  have EB := E
  refine Go.putF K (q := 40) rfl (hw _ (List.mem_of_getElem? (i := 91) rfl)) Via.refl F3 E (Or.inr ⟨(hw _ (List.mem_of_getElem? (i := 92) rfl)), rfl, rfl⟩) (hw _ (List.mem_of_getElem? (i := 55) rfl)) (ty := (.object "java/lang/String")) (by decide) rfl rfl d14_37 ga hax ?_
  intro h11 W12 F3 E
  have K0 := K0.wr W12 (Or.inl List.mem_cons_self)
  have F0 := F0.other W12 (Or.inr (own_fs03 hw))
  have F1 := F1.other W12 (Or.inr (own_fs13 hw))
  have F2 := F2.other W12 (Or.inr (own_fs23 hw))
  have F4 := F4.other W12 (Or.inr (own_fs43 hw))
  have G := G.other W12 (Or.inl nla)
  have XL := XL.wr W12
  have SI := SI.keepO EB (by decide) (hw _ (List.mem_of_getElem? (i := 55) rfl)) (Keep.of_wr W12)
  refine Go.aloadN K (q := 41) rfl d14_40 rfl rfl ?_
  refine Go.aloadN K (q := 42) rfl d14_41 rfl rfl ?_
  have EB := E
  refine Go.putF K (q := 45) rfl (hw _ (List.mem_of_getElem? (i := 93) rfl)) Via.refl F4 E (Or.inr ⟨(hw _ (List.mem_of_getElem? (i := 94) rfl)), rfl, rfl⟩) (hw _ (List.mem_of_getElem? (i := 55) rfl)) (ty := (.object "com/example/vestline/vestline/input/Location")) (by decide) rfl rfl d14_42 ga hax ?_
  intro h13 W14 F4 E
  have K0 := K0.wr W14 (Or.inl List.mem_cons_self)
  have F0 := F0.other W14 (Or.inr (own_fs04 hw))
  have F1 := F1.other W14 (Or.inr (own_fs14 hw))
  have F2 := F2.other W14 (Or.inr (own_fs24 hw))
  have F3 := F3.other W14 (Or.inr (own_fs34 hw))
  have G := G.other W14 (Or.inl nla)
  have XL := XL.wr W14
  have SI := SI.keepO EB (by decide) (hw _ (List.mem_of_getElem? (i := 55) rfl)) (Keep.of_wr W14)
  have EB := E
  exact Go.retV K d14_45 (by decide) (by decide) (fun _ q => q) (⟨s6, rfl, K0, E, F0, F1, F2, F3, SI⟩)
set_option maxRecDepth 65536 in
set_option maxHeartbeats 40000000 in
theorem c_fi1 (l : Launch) (Z : State) (a0 : Array Value) (hw : ∀ d ∈ tables_1, d.before a0 Z = true) (xs : List Addr) (n0 : Nat) (h : Heap) (Z0 : n0 ≤ h.size) (a f lo k d i : Addr) (ci : List Int32) (hax : a ∈ xs) (ga : n0 ≤ a) (E : Exa Z h a "com/example/vestline/vestline/ocf/Finding") (F0 : Fld Z h a "com/example/vestline/vestline/ocf/Finding" "file" "Ljava/lang/String;" .null) (F1 : Fld Z h a "com/example/vestline/vestline/ocf/Finding" "item" "Ljava/lang/String;" .null) (F2 : Fld Z h a "com/example/vestline/vestline/ocf/Finding" "kind" "Lcom/example/vestline/vestline/ocf/Finding$Kind;" .null) (F3 : Fld Z h a "com/example/vestline/vestline/ocf/Finding" "detail" "Ljava/lang/String;" .null) (F4 : Fld Z h a "com/example/vestline/vestline/ocf/Finding" "location" "Lcom/example/vestline/vestline/input/Location;" .null) (XL : Exa Z h lo "com/example/vestline/vestline/input/Location") (G : Fld Z h lo "com/example/vestline/vestline/input/Location" "item" "Ljava/lang/String;" (.ref i)) (SI : Str Z h i ci) :
    Ctr l Z consts_1 xs n0 (⟨"com/example/vestline/vestline/ocf/Finding", "<init>", "(Ljava/lang/String;Lcom/example/vestline/vestline/input/Location;Lcom/example/vestline/vestline/ocf/Finding$Kind;Ljava/lang/String;)V"⟩ : MethodName) prog_22_method_1_code 5 none [] ({ frames := 1, cells := 0, slots := 0, locals := 13 } : Room) #[(.ref a), (.ref f), (.ref lo), (.ref k), (.ref d)] h (fun v h' => v = none ∧ Keep h h' [a] ∧ Exa Z h' a "com/example/vestline/vestline/ocf/Finding" ∧ Fld Z h' a "com/example/vestline/vestline/ocf/Finding" "file" "Ljava/lang/String;" (.ref f) ∧ Fld Z h' a "com/example/vestline/vestline/ocf/Finding" "item" "Ljava/lang/String;" (.ref i) ∧ Fld Z h' a "com/example/vestline/vestline/ocf/Finding" "kind" "Lcom/example/vestline/vestline/ocf/Finding$Kind;" (.ref k) ∧ Fld Z h' a "com/example/vestline/vestline/ocf/Finding" "detail" "Ljava/lang/String;" (.ref d) ∧ Str Z h' i ci) := by
  refine Ctr.body pn16 ?_
  intro p e s m below meth c K
  have own_atoms := own_atoms0 hw
  refine Go.entry (f' := (mkF m 0 #[.val (.ref a), .val (.ref f), .val (.ref lo), .val (.ref k), .val (.ref d)] [])) (by first | (simp [entryFrame, mkF, argsToLocals, Value.category]; done) | rfl) ?_
  have K0 := Keep.refl h [a]
  refine Go.aloadN K (q := 1) rfl d14_0 rfl rfl ?_
  refine Go.initO K (q := 4) rfl (hw _ (List.mem_of_getElem? (i := 78) rfl)) (hw _ (List.mem_of_getElem? (i := 29) rfl)) (hw _ (List.mem_of_getElem? (i := 30) rfl)) rfl d14_1 (by decide) (W := 0) (Nat.le_of_eq rfl) (by decide) ?_
  refine Go.aloadN K (q := 5) rfl d14_4 rfl rfl ?_
  refine Go.aloadN K (q := 6) rfl d14_5 rfl rfl ?_
  have nla : lo ≠ a := fun q => (Exa.ne E XL (by decide)) q.symm
  have EB := E
  refine Go.putF K (q := 9) rfl (hw _ (List.mem_of_getElem? (i := 79) rfl)) Via.refl F0 E (Or.inr ⟨(hw _ (List.mem_of_getElem? (i := 80) rfl)), rfl, rfl⟩) (hw _ (List.mem_of_getElem? (i := 55) rfl)) (ty := (.object "java/lang/String")) (by decide) rfl rfl d14_6 ga hax ?_
  intro h1 W2 F0 E
  have K0 := K0.wr W2 (Or.inl List.mem_cons_self)
  have F1 := F1.other W2 (Or.inr (own_fs10 hw))
  have F2 := F2.other W2 (Or.inr (own_fs20 hw))
  have F3 := F3.other W2 (Or.inr (own_fs30 hw))
  have F4 := F4.other W2 (Or.inr (own_fs40 hw))
  have G := G.other W2 (Or.inl nla)
  have XL := XL.wr W2
  have SI := SI.keepO EB (by decide) (hw _ (List.mem_of_getElem? (i := 55) rfl)) (Keep.of_wr W2)
  refine Go.aloadN K (q := 10) rfl d14_9 rfl rfl ?_
  refine Go.aloadN K (q := 11) rfl d14_10 rfl rfl ?_
  have EB := E
  show Go p l e _ s m _ below meth c _ _ _ _ _ _ _ _ _ h1 0 0 (mkF m 11 #[.val (.ref a), .val (.ref f), .val (.ref lo), .val (.ref k), .val (.ref d)] [(.ref lo), (.ref a)])
  refine Go.cV K (q := 14) rfl (y := (⟨"com/example/vestline/vestline/input/Location", "item", "()Ljava/lang/String;"⟩ : MethodName)) (z := (⟨"com/example/vestline/vestline/input/Location", "item", "()Ljava/lang/String;"⟩ : MethodName)) (c_it1 l Z a0 hw xs n0 h1 (Nat.le_trans Z0 K0.1) lo i G) (hw _ (List.mem_of_getElem? (i := 81) rfl)) (hw _ (List.mem_of_getElem? (i := 82) rfl)) (nfS (hw _ (List.mem_of_getElem? (i := 84) rfl))) (hw _ (List.mem_of_getElem? (i := 84) rfl)) (hw _ (List.mem_of_getElem? (i := 83) rfl)) (hw _ (List.mem_of_getElem? (i := 8) rfl)) (hw _ (List.mem_of_getElem? (i := 85) rfl)) (by decide) XL pd11 (argsL := []) (rest := [(.ref a)]) rfl rfl rfl rfl (W := 1) (Nat.le_of_eq rfl) (by decide) (by decide) d14_11 (cells' := 0) (slots' := 0) rfl rfl (by decide) (by decide) ?_
  intro r4 h3 hQ sz_h3
  obtain ⟨rfl, rfl⟩ := hQ
  show Go p l e _ s m _ below meth c _ _ _ _ _ _ _ _ _ h1 0 0 (mkF m 14 #[.val (.ref a), .val (.ref f), .val (.ref lo), .val (.ref k), .val (.ref d)] [(.ref i), (.ref a)])
  refine Go.ifnonnullY K (q := 22) (by decide) (by decide) d14_14 ?_
  refine Go.aloadN K (q := 23) rfl d14_22 rfl rfl ?_
  refine Go.cV K (q := 26) rfl (y := (⟨"com/example/vestline/vestline/input/Location", "item", "()Ljava/lang/String;"⟩ : MethodName)) (z := (⟨"com/example/vestline/vestline/input/Location", "item", "()Ljava/lang/String;"⟩ : MethodName)) (c_it1 l Z a0 hw xs n0 h1 (Nat.le_trans Z0 K0.1) lo i G) (hw _ (List.mem_of_getElem? (i := 81) rfl)) (hw _ (List.mem_of_getElem? (i := 82) rfl)) (nfS (hw _ (List.mem_of_getElem? (i := 84) rfl))) (hw _ (List.mem_of_getElem? (i := 84) rfl)) (hw _ (List.mem_of_getElem? (i := 83) rfl)) (hw _ (List.mem_of_getElem? (i := 8) rfl)) (hw _ (List.mem_of_getElem? (i := 85) rfl)) (by decide) XL pd11 (argsL := []) (rest := [(.ref a)]) rfl rfl rfl rfl (W := 1) (Nat.le_of_eq rfl) (by decide) (by decide) d14_23 (cells' := 0) (slots' := 0) rfl rfl (by decide) (by decide) ?_
  intro r6 h5 hQ sz_h5
  obtain ⟨rfl, rfl⟩ := hQ
  show Go p l e _ s m _ below meth c _ _ _ _ _ _ _ _ _ h1 0 0 (mkF m 26 #[.val (.ref a), .val (.ref f), .val (.ref lo), .val (.ref k), .val (.ref d)] [(.ref i), (.ref a)])
  refine Go.putF K (q := 29) rfl (hw _ (List.mem_of_getElem? (i := 87) rfl)) Via.refl F1 E (Or.inr ⟨(hw _ (List.mem_of_getElem? (i := 88) rfl)), rfl, rfl⟩) (hw _ (List.mem_of_getElem? (i := 55) rfl)) (ty := (.object "java/lang/String")) (by decide) rfl rfl d14_26 ga hax ?_
  intro h7 W8 F1 E
  have K0 := K0.wr W8 (Or.inl List.mem_cons_self)
  have F0 := F0.other W8 (Or.inr (own_fs01 hw))
  have F2 := F2.other W8 (Or.inr (own_fs21 hw))
  have F3 := F3.other W8 (Or.inr (own_fs31 hw))
  have F4 := F4.other W8 (Or.inr (own_fs41 hw))
  have G := G.other W8 (Or.inl nla)
  have XL := XL.wr W8
  have SI := SI.keepO EB (by decide) (hw _ (List.mem_of_getElem? (i := 55) rfl)) (Keep.of_wr W8)
  refine Go.aloadN K (q := 30) rfl d14_29 rfl rfl ?_
  refine Go.aloadN K (q := 31) rfl d14_30 rfl rfl ?_
  have EB := E
  refine Go.putF K (q := 34) rfl (hw _ (List.mem_of_getElem? (i := 89) rfl)) Via.refl F2 E (Or.inr ⟨(hw _ (List.mem_of_getElem? (i := 90) rfl)), rfl, rfl⟩) (hw _ (List.mem_of_getElem? (i := 55) rfl)) (ty := (.object "com/example/vestline/vestline/ocf/Finding$Kind")) (by decide) rfl rfl d14_31 ga hax ?_
  intro h9 W10 F2 E
  have K0 := K0.wr W10 (Or.inl List.mem_cons_self)
  have F0 := F0.other W10 (Or.inr (own_fs02 hw))
  have F1 := F1.other W10 (Or.inr (own_fs12 hw))
  have F3 := F3.other W10 (Or.inr (own_fs32 hw))
  have F4 := F4.other W10 (Or.inr (own_fs42 hw))
  have G := G.other W10 (Or.inl nla)
  have XL := XL.wr W10
  have SI := SI.keepO EB (by decide) (hw _ (List.mem_of_getElem? (i := 55) rfl)) (Keep.of_wr W10)
  refine Go.aloadN K (q := 35) rfl d14_34 rfl rfl ?_
  refine Go.aload K (q := 37) rfl d14_35 rfl rfl ?_
  have EB := E
  refine Go.putF K (q := 40) rfl (hw _ (List.mem_of_getElem? (i := 91) rfl)) Via.refl F3 E (Or.inr ⟨(hw _ (List.mem_of_getElem? (i := 92) rfl)), rfl, rfl⟩) (hw _ (List.mem_of_getElem? (i := 55) rfl)) (ty := (.object "java/lang/String")) (by decide) rfl rfl d14_37 ga hax ?_
  intro h11 W12 F3 E
  have K0 := K0.wr W12 (Or.inl List.mem_cons_self)
  have F0 := F0.other W12 (Or.inr (own_fs03 hw))
  have F1 := F1.other W12 (Or.inr (own_fs13 hw))
  have F2 := F2.other W12 (Or.inr (own_fs23 hw))
  have F4 := F4.other W12 (Or.inr (own_fs43 hw))
  have G := G.other W12 (Or.inl nla)
  have XL := XL.wr W12
  have SI := SI.keepO EB (by decide) (hw _ (List.mem_of_getElem? (i := 55) rfl)) (Keep.of_wr W12)
  refine Go.aloadN K (q := 41) rfl d14_40 rfl rfl ?_
  refine Go.aloadN K (q := 42) rfl d14_41 rfl rfl ?_
  have EB := E
  refine Go.putF K (q := 45) rfl (hw _ (List.mem_of_getElem? (i := 93) rfl)) Via.refl F4 E (Or.inr ⟨(hw _ (List.mem_of_getElem? (i := 94) rfl)), rfl, rfl⟩) (hw _ (List.mem_of_getElem? (i := 55) rfl)) (ty := (.object "com/example/vestline/vestline/input/Location")) (by decide) rfl rfl d14_42 ga hax ?_
  intro h13 W14 F4 E
  have K0 := K0.wr W14 (Or.inl List.mem_cons_self)
  have F0 := F0.other W14 (Or.inr (own_fs04 hw))
  have F1 := F1.other W14 (Or.inr (own_fs14 hw))
  have F2 := F2.other W14 (Or.inr (own_fs24 hw))
  have F3 := F3.other W14 (Or.inr (own_fs34 hw))
  have G := G.other W14 (Or.inl nla)
  have XL := XL.wr W14
  have SI := SI.keepO EB (by decide) (hw _ (List.mem_of_getElem? (i := 55) rfl)) (Keep.of_wr W14)
  have EB := E
  exact Go.retV K d14_45 (by decide) (by decide) (fun _ q => q) (⟨rfl, K0, E, F0, F1, F2, F3, SI⟩)
set_option maxRecDepth 65536 in
set_option maxHeartbeats 40000000 in
theorem c_find (l : Launch) (Z : State) (a0 : Array Value) (hw : ∀ d ∈ tables_1, d.before a0 Z = true) (xs : List Addr) (n0 : Nat) (h : Heap) (Z0 : n0 ≤ h.size) (x : Int32) (lo : Addr) (iv : Value) (z : Int32) (Sa : Sta Z h "java/lang/String" "COMPACT_STRINGS" "Z" (.int z)) (hz : ¬ z = 0) (k0 k1 k2 k3 : Addr) (T0 : Sta Z h "com/example/vestline/vestline/ocf/Finding$Kind" "SCHEMA" "Lcom/example/vestline/vestline/ocf/Finding$Kind;" (.ref k0)) (T1 : Sta Z h "com/example/vestline/vestline/ocf/Finding$Kind" "MD5" "Lcom/example/vestline/vestline/ocf/Finding$Kind;" (.ref k1)) (T2 : Sta Z h "com/example/vestline/vestline/ocf/Finding$Kind" "MISSING" "Lcom/example/vestline/vestline/ocf/Finding$Kind;" (.ref k2)) (T3 : Sta Z h "com/example/vestline/vestline/ocf/Finding$Kind" "DOCUMENT" "Lcom/example/vestline/vestline/ocf/Finding$Kind;" (.ref k3)) (XL : Exa Z h lo "com/example/vestline/vestline/input/Location") (G : Fld Z h lo "com/example/vestline/vestline/input/Location" "item" "Ljava/lang/String;" iv) (hi : (iv = .null ∧ own_item x = []) ∨ ∃ i, iv = .ref i ∧ Str Z h i (own_item x)) :
    Ctr l Z consts_1 xs n0 (⟨"com/example/vestline/vestline/ocf/FindingEqualsPinLaw", "finding", "(ILcom/example/vestline/vestline/input/Location;)Lcom/example/vestline/vestline/ocf/Finding;"⟩ : MethodName) method_7_code 2 (some (.object "com/example/vestline/vestline/ocf/Finding")) [] ({ frames := 4, cells := 15, slots := 33, locals := 61 } : Room) #[(.int x), (.ref lo)] h (fun v h' => ∃ f, v = some (.ref f) ∧ Ext h h' ∧ Fin1 Z h' f (own_s (x &&& (1 : Int32)) (((x.toUInt32 >>> ((1 : Int32) &&& 31).toUInt32).toInt32) &&& (255 : Int32))) (own_item x) (own_s (((x.toUInt32 >>> ((21 : Int32) &&& 31).toUInt32).toInt32) &&& (1 : Int32)) (((x.toUInt32 >>> ((22 : Int32) &&& 31).toUInt32).toInt32) &&& (255 : Int32))) (own_kd k0 k1 k2 k3 (((x.toUInt32 >>> ((19 : Int32) &&& 31).toUInt32).toInt32) &&& (3 : Int32)))) := by
  refine Ctr.body pn17 ?_
  intro p e s m below meth c K
  refine Go.entry (f' := (mkF m 0 #[.val (.int x), .val (.ref lo)] [])) (by first | (simp [entryFrame, mkF, argsToLocals, Value.category]; done) | rfl) ?_
  have E0 := Ext.refl h
  refine Go.new K (q := 3) rfl (hw _ (List.mem_of_getElem? (i := 54) rfl)) (hw _ (List.mem_of_getElem? (i := 55) rfl)) (hw _ (List.mem_of_getElem? (i := 56) rfl)) d9_0 (cells' := 1) (slots' := 5) rfl rfl (by decide) (by decide) ?_
  intro h1 fi g_fi N_fi X_fi D_fi
  have ge_E0_fi : h.size ≤ fi := Nat.le_trans E0.1 (Nat.le_of_eq g_fi.symm)
  have E0 := Ext.trans E0 N_fi
  have F0 : Fld Z h1 fi "com/example/vestline/vestline/ocf/Finding" "file" "Ljava/lang/String;" .null := D_fi (Or.inr (hw _ (List.mem_of_getElem? (i := 80) rfl))) (ty := .object "java/lang/String") (by decide)
  have F1 : Fld Z h1 fi "com/example/vestline/vestline/ocf/Finding" "item" "Ljava/lang/String;" .null := D_fi (Or.inr (hw _ (List.mem_of_getElem? (i := 88) rfl))) (ty := .object "java/lang/String") (by decide)
  have F2 : Fld Z h1 fi "com/example/vestline/vestline/ocf/Finding" "kind" "Lcom/example/vestline/vestline/ocf/Finding$Kind;" .null := D_fi (Or.inr (hw _ (List.mem_of_getElem? (i := 90) rfl))) (ty := .object "com/example/vestline/vestline/ocf/Finding$Kind") (by decide)
  have F3 : Fld Z h1 fi "com/example/vestline/vestline/ocf/Finding" "detail" "Ljava/lang/String;" .null := D_fi (Or.inr (hw _ (List.mem_of_getElem? (i := 92) rfl))) (ty := .object "java/lang/String") (by decide)
  have F4 : Fld Z h1 fi "com/example/vestline/vestline/ocf/Finding" "location" "Lcom/example/vestline/vestline/input/Location;" .null := D_fi (Or.inr (hw _ (List.mem_of_getElem? (i := 94) rfl))) (ty := .object "com/example/vestline/vestline/input/Location") (by decide)
  have n_fi : n0 ≤ fi := Nat.le_trans Z0 ge_E0_fi
  refine Go.dup K (q := 4) rfl d9_3 rfl ?_
  refine Go.iloadN K (q := 5) rfl d9_4 rfl ?_
  refine Go.iconst K (q := 6) rfl (v := (1 : Int32)) (by decide) d9_5 ?_
  refine Go.iand K (q := 7) rfl d9_6 ?_
  refine Go.iloadN K (q := 8) rfl d9_7 rfl ?_
  refine Go.iconst K (q := 9) rfl (v := (1 : Int32)) (by decide) d9_8 ?_
  refine Go.iushr K (q := 10) rfl d9_9 ?_
  refine Go.sipush K (q := 13) rfl (v := (255 : Int32)) (by decide) d9_10 ?_
  refine Go.iand K (q := 14) rfl d9_13 ?_
  refine Go.cS K (q := 17) rfl (y := (⟨"com/example/vestline/vestline/ocf/FindingEqualsPinLaw", "str", "(II)Ljava/lang/String;"⟩ : MethodName)) (c_str l Z a0 hw (fi :: xs) n0 h1 (Nat.le_trans Z0 E0.1) (x &&& (1 : Int32)) (((x.toUInt32 >>> ((1 : Int32) &&& 31).toUInt32).toInt32) &&& (255 : Int32)) (own_c8 _) z (Sa.ext E0) hz) (hw _ (List.mem_of_getElem? (i := 57) rfl)) (hw _ (List.mem_of_getElem? (i := 58) rfl)) (hw _ (List.mem_of_getElem? (i := 4) rfl)) (hw _ (List.mem_of_getElem? (i := 59) rfl)) (by decide) pd10 (argsL := [(.int (x &&& (1 : Int32))), (.int (((x.toUInt32 >>> ((1 : Int32) &&& 31).toUInt32).toInt32) &&& (255 : Int32)))]) (rest := [(.ref fi), (.ref fi)]) rfl rfl rfl rfl (W := 2) (Nat.le_of_eq rfl) (by decide) (by decide) d9_14 (cells' := 7) (slots' := 17) rfl rfl (by decide) (by decide) ?_
  intro r3 h2 hQ sz_h2
  obtain ⟨s1, rfl, N_s1, S_s1⟩ := hQ
  have E0 := Ext.trans E0 N_s1
  show Go p l e _ s m _ below meth c _ _ _ _ _ _ _ _ _ h2 7 17 (mkF m 17 #[.val (.int x), .val (.ref lo)] [(.ref s1), (.ref fi), (.ref fi)])
  have X_fi := X_fi.ext N_s1
  have F0 := F0.ext N_s1
  have F1 := F1.ext N_s1
  have F2 := F2.ext N_s1
  have F3 := F3.ext N_s1
  have F4 := F4.ext N_s1
  refine Go.aloadN K (q := 18) rfl d9_17 rfl rfl ?_
  refine Go.iloadN K (q := 19) rfl d9_18 rfl ?_
  refine Go.bipush K (q := 21) rfl (v := (19 : Int32)) (by decide) d9_19 ?_
  refine Go.iushr K (q := 22) rfl d9_21 ?_
  refine Go.iconst K (q := 23) rfl (v := (3 : Int32)) (by decide) d9_22 ?_
  refine Go.iand K (q := 24) rfl d9_23 ?_
  refine Go.cS K (q := 27) rfl (y := (⟨"com/example/vestline/vestline/ocf/FindingEqualsPinLaw", "kind", "(I)Lcom/example/vestline/vestline/ocf/Finding$Kind;"⟩ : MethodName)) (c_kind l Z a0 hw (fi :: xs) n0 h2 (Nat.le_trans Z0 E0.1) (((x.toUInt32 >>> ((19 : Int32) &&& 31).toUInt32).toInt32) &&& (3 : Int32)) k0 k1 k2 k3 (T0.ext E0) (T1.ext E0) (T2.ext E0) (T3.ext E0)) (hw _ (List.mem_of_getElem? (i := 69) rfl)) (hw _ (List.mem_of_getElem? (i := 70) rfl)) (hw _ (List.mem_of_getElem? (i := 4) rfl)) (hw _ (List.mem_of_getElem? (i := 71) rfl)) (by decide) pd12 (argsL := [(.int (((x.toUInt32 >>> ((19 : Int32) &&& 31).toUInt32).toInt32) &&& (3 : Int32)))]) (rest := [(.ref lo), (.ref s1), (.ref fi), (.ref fi)]) rfl rfl rfl rfl (W := 4) (Nat.le_of_eq rfl) (by decide) (by decide) d9_24 (cells' := 7) (slots' := 17) rfl rfl (by decide) (by decide) ?_
  intro r5 h4 hQ sz_h4
  obtain ⟨rfl, rfl⟩ := hQ
  show Go p l e _ s m _ below meth c _ _ _ _ _ _ _ _ _ h2 7 17 (mkF m 27 #[.val (.int x), .val (.ref lo)] [(.ref (own_kd k0 k1 k2 k3 (((x.toUInt32 >>> ((19 : Int32) &&& 31).toUInt32).toInt32) &&& (3 : Int32)))), (.ref lo), (.ref s1), (.ref fi), (.ref fi)])
  refine Go.iloadN K (q := 28) rfl d9_27 rfl ?_
  refine Go.bipush K (q := 30) rfl (v := (21 : Int32)) (by decide) d9_28 ?_
  refine Go.iushr K (q := 31) rfl d9_30 ?_
  refine Go.iconst K (q := 32) rfl (v := (1 : Int32)) (by decide) d9_31 ?_
  refine Go.iand K (q := 33) rfl d9_32 ?_
  refine Go.iloadN K (q := 34) rfl d9_33 rfl ?_
  refine Go.bipush K (q := 36) rfl (v := (22 : Int32)) (by decide) d9_34 ?_
  refine Go.iushr K (q := 37) rfl d9_36 ?_
  refine Go.sipush K (q := 40) rfl (v := (255 : Int32)) (by decide) d9_37 ?_
  refine Go.iand K (q := 41) rfl d9_40 ?_
  refine Go.cS K (q := 44) rfl (y := (⟨"com/example/vestline/vestline/ocf/FindingEqualsPinLaw", "str", "(II)Ljava/lang/String;"⟩ : MethodName)) (c_str l Z a0 hw (fi :: xs) n0 h2 (Nat.le_trans Z0 E0.1) (((x.toUInt32 >>> ((21 : Int32) &&& 31).toUInt32).toInt32) &&& (1 : Int32)) (((x.toUInt32 >>> ((22 : Int32) &&& 31).toUInt32).toInt32) &&& (255 : Int32)) (own_c8 _) z (Sa.ext E0) hz) (hw _ (List.mem_of_getElem? (i := 57) rfl)) (hw _ (List.mem_of_getElem? (i := 58) rfl)) (hw _ (List.mem_of_getElem? (i := 4) rfl)) (hw _ (List.mem_of_getElem? (i := 59) rfl)) (by decide) pd10 (argsL := [(.int (((x.toUInt32 >>> ((21 : Int32) &&& 31).toUInt32).toInt32) &&& (1 : Int32))), (.int (((x.toUInt32 >>> ((22 : Int32) &&& 31).toUInt32).toInt32) &&& (255 : Int32)))]) (rest := [(.ref (own_kd k0 k1 k2 k3 (((x.toUInt32 >>> ((19 : Int32) &&& 31).toUInt32).toInt32) &&& (3 : Int32)))), (.ref lo), (.ref s1), (.ref fi), (.ref fi)]) rfl rfl rfl rfl (W := 5) (Nat.le_of_eq rfl) (by decide) (by decide) d9_41 (cells' := 13) (slots' := 29) rfl rfl (by decide) (by decide) ?_
  intro r7 h6 hQ sz_h6
  obtain ⟨s2, rfl, N_s2, S_s2⟩ := hQ
  have E0 := Ext.trans E0 N_s2
  show Go p l e _ s m _ below meth c _ _ _ _ _ _ _ _ _ h6 13 29 (mkF m 44 #[.val (.int x), .val (.ref lo)] [(.ref s2), (.ref (own_kd k0 k1 k2 k3 (((x.toUInt32 >>> ((19 : Int32) &&& 31).toUInt32).toInt32) &&& (3 : Int32)))), (.ref lo), (.ref s1), (.ref fi), (.ref fi)])
  have X_fi := X_fi.ext N_s2
  have F0 := F0.ext N_s2
  have F1 := F1.ext N_s2
  have F2 := F2.ext N_s2
  have F3 := F3.ext N_s2
  have F4 := F4.ext N_s2
  have S_s1 := S_s1.ext N_s2
  rcases hi with ⟨rfl, hi0⟩ | ⟨i, rfl, SI⟩
  · skip
    refine Go.cI K (q := 47) rfl (y := (⟨"com/example/vestline/vestline/ocf/Finding", "<init>", "(Ljava/lang/String;Lcom/example/vestline/vestline/input/Location;Lcom/example/vestline/vestline/ocf/Finding$Kind;Ljava/lang/String;)V"⟩ : MethodName)) (c_fi0 l Z a0 hw (fi :: xs) n0 h6 (Nat.le_trans Z0 E0.1) fi s1 lo (own_kd k0 k1 k2 k3 (((x.toUInt32 >>> ((19 : Int32) &&& 31).toUInt32).toInt32) &&& (3 : Int32))) s2 List.mem_cons_self n_fi X_fi F0 F1 F2 F3 F4 (XL.ext E0) (G.ext E0)) rfl (hw _ (List.mem_of_getElem? (i := 75) rfl)) (hw _ (List.mem_of_getElem? (i := 76) rfl)) (hw _ (List.mem_of_getElem? (i := 56) rfl)) (hw _ (List.mem_of_getElem? (i := 77) rfl)) (by decide) (a := fi) pd13 (argsL := [(.ref s1), (.ref lo), (.ref (own_kd k0 k1 k2 k3 (((x.toUInt32 >>> ((19 : Int32) &&& 31).toUInt32).toInt32) &&& (3 : Int32)))), (.ref s2)]) (rest := [(.ref fi)]) rfl rfl rfl rfl (W := 1) (Nat.le_of_eq rfl) (by decide) (by decide) d9_44 (cells' := 15) (slots' := 33) rfl rfl (by decide) (by decide) ?_
    intro r9 h8 hQ sz_h8
    obtain ⟨i, rfl, KF, X2, G0, G1, G2, G3, SI⟩ := hQ
    have E0 := Ext.keep E0 KF (allS ge_E0_fi all0)
    show Go p l e _ s m _ below meth c _ _ _ _ _ _ _ _ _ h8 15 33 (mkF m 47 #[.val (.int x), .val (.ref lo)] [(.ref fi)])
    have S_s1 := S_s1.keepO X_fi (by decide) (hw _ (List.mem_of_getElem? (i := 55) rfl)) KF
    have S_s2 := S_s2.keepO X_fi (by decide) (hw _ (List.mem_of_getElem? (i := 55) rfl)) KF
    rw [← hi0] at SI
    exact Go.retA K rfl rfl d9_47 (by decide) (by decide) (fun _ q => (List.mem_cons_of_mem _ q)) (⟨fi, rfl, E0, X2, s1, i, s2, G0, G1, G2, G3, S_s1, SI, S_s2⟩)
  · skip
    refine Go.cI K (q := 47) rfl (y := (⟨"com/example/vestline/vestline/ocf/Finding", "<init>", "(Ljava/lang/String;Lcom/example/vestline/vestline/input/Location;Lcom/example/vestline/vestline/ocf/Finding$Kind;Ljava/lang/String;)V"⟩ : MethodName)) (c_fi1 l Z a0 hw (fi :: xs) n0 h6 (Nat.le_trans Z0 E0.1) fi s1 lo (own_kd k0 k1 k2 k3 (((x.toUInt32 >>> ((19 : Int32) &&& 31).toUInt32).toInt32) &&& (3 : Int32))) s2 i (own_item x) List.mem_cons_self n_fi X_fi F0 F1 F2 F3 F4 (XL.ext E0) (G.ext E0) (SI.ext E0)) rfl (hw _ (List.mem_of_getElem? (i := 75) rfl)) (hw _ (List.mem_of_getElem? (i := 76) rfl)) (hw _ (List.mem_of_getElem? (i := 56) rfl)) (hw _ (List.mem_of_getElem? (i := 77) rfl)) (by decide) (a := fi) pd13 (argsL := [(.ref s1), (.ref lo), (.ref (own_kd k0 k1 k2 k3 (((x.toUInt32 >>> ((19 : Int32) &&& 31).toUInt32).toInt32) &&& (3 : Int32)))), (.ref s2)]) (rest := [(.ref fi)]) rfl rfl rfl rfl (W := 1) (Nat.le_of_eq rfl) (by decide) (by decide) d9_44 (cells' := 13) (slots' := 29) rfl rfl (by decide) (by decide) ?_
    intro r11 h10 hQ sz_h10
    obtain ⟨rfl, KF, X2, G0, G1, G2, G3, SI⟩ := hQ
    have E0 := Ext.keep E0 KF (allS ge_E0_fi all0)
    show Go p l e _ s m _ below meth c _ _ _ _ _ _ _ _ _ h10 13 29 (mkF m 47 #[.val (.int x), .val (.ref lo)] [(.ref fi)])
    have S_s1 := S_s1.keepO X_fi (by decide) (hw _ (List.mem_of_getElem? (i := 55) rfl)) KF
    have S_s2 := S_s2.keepO X_fi (by decide) (hw _ (List.mem_of_getElem? (i := 55) rfl)) KF
    exact Go.retA K rfl rfl d9_47 (by decide) (by decide) (fun _ q => (List.mem_cons_of_mem _ q)) (⟨fi, rfl, E0, X2, s1, i, s2, G0, G1, G2, G3, S_s1, SI, S_s2⟩)
set_option maxRecDepth 65536 in
set_option maxHeartbeats 40000000 in
theorem c_eqn (l : Launch) (Z : State) (a0 : Array Value) (hw : ∀ d ∈ tables_1, d.before a0 Z = true) (xs : List Addr) (n0 : Nat) (h : Heap) (Z0 : n0 ≤ h.size) (a : Addr) :
    Ctr l Z consts_1 xs n0 (⟨"com/example/vestline/vestline/ocf/Finding", "equals", "(Ljava/lang/Object;)Z"⟩ : MethodName) prog_22_method_7_code 3 (some .boolean) [] ({ frames := 0, cells := 0, slots := 0, locals := 0 } : Room) #[(.ref a), .null] h (fun v h' => v = some (.int 0) ∧ h = h') := by
  refine Ctr.body pn18 ?_
  intro p e s m below meth c K
  refine Go.entry (f' := (mkF m 0 #[.val (.ref a), .val .null, .unset] [])) (by first | (simp [entryFrame, mkF, argsToLocals, Value.category]; done) | rfl) ?_
  refine Go.aloadN K (q := 1) rfl d16_0 rfl rfl ?_
  refine Go.instNull K (q := 4) rfl d16_1 ?_
  refine Go.ifN K (q := 7) rfl d16_4 (show (0 : Int32) = (0 : Int32) from rfl) ?_
  refine Go.iconst K (q := 8) rfl (v := (0 : Int32)) (by decide) d16_7 ?_
  exact Go.retN K (by simp) d16_8 (by decide) (by decide) (fun _ q => q) (⟨rfl, rfl⟩)
set_option maxRecDepth 65536 in
set_option maxHeartbeats 40000000 in
theorem c_eqs (l : Launch) (Z : State) (a0 : Array Value) (hw : ∀ d ∈ tables_1, d.before a0 Z = true) (xs : List Addr) (n0 : Nat) (h : Heap) (Z0 : n0 ≤ h.size) (a b : Addr) (E : Exa Z h b "com/example/vestline/vestline/input/Location") :
    Ctr l Z consts_1 xs n0 (⟨"com/example/vestline/vestline/ocf/Finding", "equals", "(Ljava/lang/Object;)Z"⟩ : MethodName) prog_22_method_7_code 3 (some .boolean) [] ({ frames := 0, cells := 0, slots := 0, locals := 0 } : Room) #[(.ref a), (.ref b)] h (fun v h' => v = some (.int 0) ∧ h = h') := by
  refine Ctr.body pn18 ?_
  intro p e s m below meth c K
  refine Go.entry (f' := (mkF m 0 #[.val (.ref a), .val (.ref b), .unset] [])) (by first | (simp [entryFrame, mkF, argsToLocals, Value.category]; done) | rfl) ?_
  refine Go.aloadN K (q := 1) rfl d16_0 rfl rfl ?_
  refine Go.instNo K (q := 4) rfl (hw _ (List.mem_of_getElem? (i := 112) rfl)) E (own_no0 hw) d16_1 ?_
  refine Go.ifN K (q := 7) rfl d16_4 (show (0 : Int32) = (0 : Int32) from rfl) ?_
  refine Go.iconst K (q := 8) rfl (v := (0 : Int32)) (by decide) d16_7 ?_
  exact Go.retN K (by simp) d16_8 (by decide) (by decide) (fun _ q => q) (⟨rfl, rfl⟩)
set_option maxRecDepth 65536 in
set_option maxHeartbeats 40000000 in
theorem c_eq (l : Launch) (Z : State) (a0 : Array Value) (hw : ∀ d ∈ tables_1, d.before a0 Z = true) (xs : List Addr) (n0 : Nat) (h : Heap) (Z0 : n0 ≤ h.size) (a b : Addr) (c1 c2 c3 d1 d2 d3 : List Int32) (ka kb : Addr) (z : Int32) (Sa : Sta Z h "java/lang/String" "COMPACT_STRINGS" "Z" (.int z)) (hz : ¬ z = 0) (A : Fin1 Z h a c1 c2 c3 ka) (B : Fin1 Z h b d1 d2 d3 kb) (Lc1 : c1.length ≤ 1) (Ld1 : d1.length ≤ 1) (Lc2 : c2.length ≤ 1) (Ld2 : d2.length ≤ 1) (Lc3 : c3.length ≤ 1) (Ld3 : d3.length ≤ 1) :
    Ctr l Z consts_1 xs n0 (⟨"com/example/vestline/vestline/ocf/Finding", "equals", "(Ljava/lang/Object;)Z"⟩ : MethodName) prog_22_method_7_code 3 (some .boolean) [] ({ frames := 2, cells := 0, slots := 0, locals := 28 } : Room) #[(.ref a), (.ref b)] h (fun v h' => v = some (.int (if c1 = d1 ∧ c2 = d2 ∧ ka = kb ∧ c3 = d3 then 1 else 0)) ∧ h = h') := by
  refine Ctr.body pn18 ?_
  intro p e s m below meth c K
  refine Go.entry (f' := (mkF m 0 #[.val (.ref a), .val (.ref b), .unset] [])) (by first | (simp [entryFrame, mkF, argsToLocals, Value.category]; done) | rfl) ?_
  obtain ⟨EA, s1, s2, s3, F0, F1, F2, F3, S1, S2, S3⟩ := A
  obtain ⟨E, t1, t2, t3, G0, G1, G2, G3, T1, T2, T3⟩ := B
  refine Go.aloadN K (q := 1) rfl d16_0 rfl rfl ?_
  refine Go.instY K (q := 4) rfl (hw _ (List.mem_of_getElem? (i := 112) rfl)) (Ins.self E) d16_1 ?_
  refine Go.ifY K (q := 9) (by decide) (by decide) d16_4 (show ¬ (1 : Int32) = (0 : Int32) from (by decide)) ?_
  refine Go.aloadN K (q := 10) rfl d16_9 rfl rfl ?_
  refine Go.castY K (q := 13) rfl (hw _ (List.mem_of_getElem? (i := 112) rfl)) (Ins.self E) d16_10 ?_
  refine Go.astoreN K (q := 14) rfl (L' := #[.val (.ref a), .val (.ref b), .val (.ref b)]) d16_13 rfl rfl ?_
  refine Go.aloadN K (q := 15) rfl d16_14 rfl rfl ?_
  refine Go.getF K (q := 18) rfl (hw _ (List.mem_of_getElem? (i := 79) rfl)) Via.refl (F0) d16_15 ?_
  refine Go.aloadN K (q := 19) rfl d16_18 rfl rfl ?_
  refine Go.getF K (q := 22) rfl (hw _ (List.mem_of_getElem? (i := 79) rfl)) Via.refl (G0) d16_19 ?_
  refine Go.cV K (q := 25) rfl (y := (⟨"java/lang/String", "equals", "(Ljava/lang/Object;)Z"⟩ : MethodName)) (z := (⟨"java/lang/String", "equals", "(Ljava/lang/Object;)Z"⟩ : MethodName)) (c_seq l Z a0 hw xs n0 h Z0 s1 t1 c1 d1 z Sa hz S1 T1 Lc1 Ld1) (hw _ (List.mem_of_getElem? (i := 114) rfl)) (hw _ (List.mem_of_getElem? (i := 115) rfl)) (nfS (hw _ (List.mem_of_getElem? (i := 117) rfl))) (hw _ (List.mem_of_getElem? (i := 117) rfl)) (hw _ (List.mem_of_getElem? (i := 116) rfl)) (hw _ (List.mem_of_getElem? (i := 11) rfl)) (hw _ (List.mem_of_getElem? (i := 118) rfl)) (by decide) S1.exa pd14 (argsL := [(.ref t1)]) (rest := []) rfl rfl rfl rfl (W := 0) (Nat.le_of_eq rfl) (by decide) (by decide) d16_22 (cells' := 0) (slots' := 0) rfl rfl (by decide) (by decide) ?_
  intro r2 h1 hQ sz_h1
  obtain ⟨rfl, rfl⟩ := hQ
  show Go p l e _ s m _ below meth c _ _ _ _ _ _ _ _ _ h 0 0 (mkF m 25 #[.val (.ref a), .val (.ref b), .val (.ref b)] [(.int (if c1 = d1 then 1 else 0))])
  by_cases hs : c1 = d1
  · skip
    rw [if_pos hs]
    have hs1 := hs
    refine Go.ifN K (q := 28) rfl d16_25 (show ¬ (1 : Int32) = (0 : Int32) from (by decide)) ?_
    refine Go.aloadN K (q := 29) rfl d16_28 rfl rfl ?_
    refine Go.getF K (q := 32) rfl (hw _ (List.mem_of_getElem? (i := 87) rfl)) Via.refl (F1) d16_29 ?_
    refine Go.aloadN K (q := 33) rfl d16_32 rfl rfl ?_
    refine Go.getF K (q := 36) rfl (hw _ (List.mem_of_getElem? (i := 87) rfl)) Via.refl (G1) d16_33 ?_
    refine Go.cV K (q := 39) rfl (y := (⟨"java/lang/String", "equals", "(Ljava/lang/Object;)Z"⟩ : MethodName)) (z := (⟨"java/lang/String", "equals", "(Ljava/lang/Object;)Z"⟩ : MethodName)) (c_seq l Z a0 hw xs n0 h Z0 s2 t2 c2 d2 z Sa hz S2 T2 Lc2 Ld2) (hw _ (List.mem_of_getElem? (i := 114) rfl)) (hw _ (List.mem_of_getElem? (i := 115) rfl)) (nfS (hw _ (List.mem_of_getElem? (i := 117) rfl))) (hw _ (List.mem_of_getElem? (i := 117) rfl)) (hw _ (List.mem_of_getElem? (i := 116) rfl)) (hw _ (List.mem_of_getElem? (i := 11) rfl)) (hw _ (List.mem_of_getElem? (i := 118) rfl)) (by decide) S2.exa pd14 (argsL := [(.ref t2)]) (rest := []) rfl rfl rfl rfl (W := 0) (Nat.le_of_eq rfl) (by decide) (by decide) d16_36 (cells' := 0) (slots' := 0) rfl rfl (by decide) (by decide) ?_
    intro r4 h3 hQ sz_h3
    obtain ⟨rfl, rfl⟩ := hQ
    show Go p l e _ s m _ below meth c _ _ _ _ _ _ _ _ _ h 0 0 (mkF m 39 #[.val (.ref a), .val (.ref b), .val (.ref b)] [(.int (if c2 = d2 then 1 else 0))])
    by_cases hs : c2 = d2
    · skip
      rw [if_pos hs]
      have hs2 := hs
      refine Go.ifN K (q := 42) rfl d16_39 (show ¬ (1 : Int32) = (0 : Int32) from (by decide)) ?_
      refine Go.aloadN K (q := 43) rfl d16_42 rfl rfl ?_
      refine Go.getF K (q := 46) rfl (hw _ (List.mem_of_getElem? (i := 89) rfl)) Via.refl (F2) d16_43 ?_
      refine Go.aloadN K (q := 47) rfl d16_46 rfl rfl ?_
      refine Go.getF K (q := 50) rfl (hw _ (List.mem_of_getElem? (i := 89) rfl)) Via.refl (G2) d16_47 ?_
      by_cases hk : ka = kb
      · skip
        refine Go.acmp K (q := 53) rfl rfl (same := true) (decide_eq_true (congrArg Value.ref hk)) (by decide) (by decide) d16_50 ?_
        refine Go.aloadN K (q := 54) rfl d16_53 rfl rfl ?_
        refine Go.getF K (q := 57) rfl (hw _ (List.mem_of_getElem? (i := 91) rfl)) Via.refl (F3) d16_54 ?_
        refine Go.aloadN K (q := 58) rfl d16_57 rfl rfl ?_
        refine Go.getF K (q := 61) rfl (hw _ (List.mem_of_getElem? (i := 91) rfl)) Via.refl (G3) d16_58 ?_
        refine Go.cV K (q := 64) rfl (y := (⟨"java/lang/String", "equals", "(Ljava/lang/Object;)Z"⟩ : MethodName)) (z := (⟨"java/lang/String", "equals", "(Ljava/lang/Object;)Z"⟩ : MethodName)) (c_seq l Z a0 hw xs n0 h Z0 s3 t3 c3 d3 z Sa hz S3 T3 Lc3 Ld3) (hw _ (List.mem_of_getElem? (i := 114) rfl)) (hw _ (List.mem_of_getElem? (i := 115) rfl)) (nfS (hw _ (List.mem_of_getElem? (i := 117) rfl))) (hw _ (List.mem_of_getElem? (i := 117) rfl)) (hw _ (List.mem_of_getElem? (i := 116) rfl)) (hw _ (List.mem_of_getElem? (i := 11) rfl)) (hw _ (List.mem_of_getElem? (i := 118) rfl)) (by decide) S3.exa pd14 (argsL := [(.ref t3)]) (rest := []) rfl rfl rfl rfl (W := 0) (Nat.le_of_eq rfl) (by decide) (by decide) d16_61 (cells' := 0) (slots' := 0) rfl rfl (by decide) (by decide) ?_
        intro r6 h5 hQ sz_h5
        obtain ⟨rfl, rfl⟩ := hQ
        show Go p l e _ s m _ below meth c _ _ _ _ _ _ _ _ _ h 0 0 (mkF m 64 #[.val (.ref a), .val (.ref b), .val (.ref b)] [(.int (if c3 = d3 then 1 else 0))])
        by_cases hs : c3 = d3
        · skip
          rw [if_pos hs]
          have hs3 := hs
          refine Go.ifN K (q := 67) rfl d16_64 (show ¬ (1 : Int32) = (0 : Int32) from (by decide)) ?_
          refine Go.iconst K (q := 68) rfl (v := (1 : Int32)) (by decide) d16_67 ?_
          refine Go.goto K (q := 72) (by decide) (by decide) d16_68 ?_
          exact Go.retN K (by simp) d16_72 (by decide) (by decide) (fun _ q => q) (⟨by rw [if_pos ⟨hs1, hs2, hk, hs3⟩]; rfl, rfl⟩)
        · skip
          rw [if_neg hs]
          refine Go.ifY K (q := 71) (by decide) (by decide) d16_64 (show (0 : Int32) = (0 : Int32) from rfl) ?_
          refine Go.iconst K (q := 72) rfl (v := (0 : Int32)) (by decide) d16_71 ?_
          exact Go.retN K (by simp) d16_72 (by decide) (by decide) (fun _ q => q) (⟨by rw [if_neg (fun q => hs q.2.2.2)]; rfl, rfl⟩)
      · skip
        refine Go.acmp K (q := 71) rfl rfl (same := false) (decide_eq_false fun q => hk (Value.ref.inj q)) (by decide) (by decide) d16_50 ?_
        refine Go.iconst K (q := 72) rfl (v := (0 : Int32)) (by decide) d16_71 ?_
        exact Go.retN K (by simp) d16_72 (by decide) (by decide) (fun _ q => q) (⟨by rw [if_neg (fun q => hk q.2.2.1)]; rfl, rfl⟩)
    · skip
      rw [if_neg hs]
      refine Go.ifY K (q := 71) (by decide) (by decide) d16_39 (show (0 : Int32) = (0 : Int32) from rfl) ?_
      refine Go.iconst K (q := 72) rfl (v := (0 : Int32)) (by decide) d16_71 ?_
      exact Go.retN K (by simp) d16_72 (by decide) (by decide) (fun _ q => q) (⟨by rw [if_neg (fun q => hs q.2.1)]; rfl, rfl⟩)
  · skip
    rw [if_neg hs]
    refine Go.ifY K (q := 71) (by decide) (by decide) d16_25 (show (0 : Int32) = (0 : Int32) from rfl) ?_
    refine Go.iconst K (q := 72) rfl (v := (0 : Int32)) (by decide) d16_71 ?_
    exact Go.retN K (by simp) d16_72 (by decide) (by decide) (fun _ q => q) (⟨by rw [if_neg (fun q => hs q.1)]; rfl, rfl⟩)
set_option maxRecDepth 65536 in
set_option maxHeartbeats 40000000 in
theorem rm0 (l : Launch) (Z : State) (a0 : Array Value) (hw : ∀ d ∈ tables_1, d.before a0 Z = true) (ws : List Jvm.Cond) (xs : List Addr) (n0 : Nat) (h : Heap) (Z0 : n0 ≤ h.size) (a b cc : Int32) (z : Int32) (Sa : Sta Z h "java/lang/String" "COMPACT_STRINGS" "Z" (.int z)) (hz : ¬ z = 0) (k0 k1 k2 k3 : Addr) (T0 : Sta Z h "com/example/vestline/vestline/ocf/Finding$Kind" "SCHEMA" "Lcom/example/vestline/vestline/ocf/Finding$Kind;" (.ref k0)) (T1 : Sta Z h "com/example/vestline/vestline/ocf/Finding$Kind" "MD5" "Lcom/example/vestline/vestline/ocf/Finding$Kind;" (.ref k1)) (T2 : Sta Z h "com/example/vestline/vestline/ocf/Finding$Kind" "MISSING" "Lcom/example/vestline/vestline/ocf/Finding$Kind;" (.ref k2)) (T3 : Sta Z h "com/example/vestline/vestline/ocf/Finding$Kind" "DOCUMENT" "Lcom/example/vestline/vestline/ocf/Finding$Kind;" (.ref k3)) (d01 : k0 ≠ k1) (d02 : k0 ≠ k2) (d03 : k0 ≠ k3) (d12 : k1 ≠ k2) (d13 : k1 ≠ k3) (d23 : k2 ≠ k3) :
    Ctr l Z consts_1 xs n0 x code maxLocals ret ws room_1 #[(.int a), (.int b), (.int cc)] h (fun v h' => v = some (.int 1)) := by
  refine Ctr.body pn19 ?_
  intro p e s m below meth c K
  refine Go.entry (f' := (mkF m 0 #[.val (.int a), .val (.int b), .val (.int cc), .unset, .unset, .unset, .unset, .unset, .unset, .unset] [])) (by first | (simp [entryFrame, mkF, argsToLocals, Value.category, maxLocals]; done) | rfl) ?_
  have E0 := Ext.refl h
  refine Go.iloadN K (q := 1) rfl at_0 rfl ?_
  refine Go.istoreN K (q := 2) rfl (L' := #[.val (.int a), .val (.int b), .val (.int cc), .val (.int b), .unset, .unset, .unset, .unset, .unset, .unset]) at_1 rfl ?_
  show Go p l e _ s m _ below meth c _ _ _ _ _ _ _ _ _ h 0 0 (mkF m 2 #[.val (.int a), .val (.int b), .val (.int cc), .val (.int b), .unset, .unset, .unset, .unset, .unset, .unset] [])
  have key69 : ∀ s3 : Int32, Go p l e room_1 s m #[(.int a), (.int b), (.int cc)] below meth c Z "com/example/vestline/vestline/ocf/FindingEqualsPinLaw" consts_1 xs n0 room_1.cells room_1.slots (fun v h' => v = some (.int 1)) xs h 0 0 (mkF m 69 #[.val (.int a), .val (.int b), .val (.int cc), .val (.int s3), .unset, .unset, .unset, .unset, .unset, .unset] []) := by
    intro s3
    refine Go.iloadN K (q := 70) rfl at_69 rfl ?_
    refine Go.iloadN K (q := 71) rfl at_70 rfl ?_
    refine Go.bipush K (q := 73) rfl (v := (6 : Int32)) (by decide) at_71 ?_
    refine Go.iushr K (q := 74) rfl at_73 ?_
    refine Go.sipush K (q := 77) rfl (v := (255 : Int32)) (by decide) at_74 ?_
    refine Go.iand K (q := 78) rfl at_77 ?_
    refine Go.cS K (q := 81) rfl (y := (⟨"com/example/vestline/vestline/ocf/FindingEqualsPinLaw", "location", "(II)Lcom/example/vestline/vestline/input/Location;"⟩ : MethodName)) (c_loc l Z a0 hw xs n0 h (Nat.le_trans Z0 E0.1) a (((cc.toUInt32 >>> ((6 : Int32) &&& 31).toUInt32).toInt32) &&& (255 : Int32)) (own_c8 _) z (Sa.ext E0) hz) (hw _ (List.mem_of_getElem? (i := 2) rfl)) (hw _ (List.mem_of_getElem? (i := 3) rfl)) (hw _ (List.mem_of_getElem? (i := 4) rfl)) (hw _ (List.mem_of_getElem? (i := 5) rfl)) (by decide) pd15 (argsL := [(.int a), (.int (((cc.toUInt32 >>> ((6 : Int32) &&& 31).toUInt32).toInt32) &&& (255 : Int32)))]) (rest := []) rfl rfl rfl rfl (W := 0) (Nat.le_of_eq rfl) (by decide) (by decide) at_78 (cells' := 11) (slots' := 39) rfl rfl (by decide) (by decide) ?_
    intro r2 h1 hQ sz_h1
    obtain ⟨lo1, i_lo1, rfl, N_lo1, X_lo1, F_lo1, I_lo1⟩ := hQ
    have E0 := Ext.trans E0 N_lo1
    show Go p l e _ s m _ below meth c _ _ _ _ _ _ _ _ _ h1 11 39 (mkF m 81 #[.val (.int a), .val (.int b), .val (.int cc), .val (.int s3), .unset, .unset, .unset, .unset, .unset, .unset] [(.ref lo1)])
    have E1 := Ext.refl h1
    refine Go.astore K (q := 83) rfl (L' := #[.val (.int a), .val (.int b), .val (.int cc), .val (.int s3), .val (.ref lo1), .unset, .unset, .unset, .unset, .unset]) at_81 rfl rfl ?_
    refine Go.iloadN K (q := 84) rfl at_83 rfl ?_
    refine Go.iloadN K (q := 85) rfl at_84 rfl ?_
    refine Go.bipush K (q := 87) rfl (v := (14 : Int32)) (by decide) at_85 ?_
    refine Go.iushr K (q := 88) rfl at_87 ?_
    refine Go.sipush K (q := 91) rfl (v := (255 : Int32)) (by decide) at_88 ?_
    refine Go.iand K (q := 92) rfl at_91 ?_
    refine Go.cS K (q := 95) rfl (y := (⟨"com/example/vestline/vestline/ocf/FindingEqualsPinLaw", "location", "(II)Lcom/example/vestline/vestline/input/Location;"⟩ : MethodName)) (c_loc l Z a0 hw xs n0 h1 (Nat.le_trans Z0 E0.1) s3 (((cc.toUInt32 >>> ((14 : Int32) &&& 31).toUInt32).toInt32) &&& (255 : Int32)) (own_c8 _) z (Sa.ext E0) hz) (hw _ (List.mem_of_getElem? (i := 2) rfl)) (hw _ (List.mem_of_getElem? (i := 3) rfl)) (hw _ (List.mem_of_getElem? (i := 4) rfl)) (hw _ (List.mem_of_getElem? (i := 5) rfl)) (by decide) pd15 (argsL := [(.int s3), (.int (((cc.toUInt32 >>> ((14 : Int32) &&& 31).toUInt32).toInt32) &&& (255 : Int32)))]) (rest := []) rfl rfl rfl rfl (W := 0) (Nat.le_of_eq rfl) (by decide) (by decide) at_92 (cells' := 22) (slots' := 78) rfl rfl (by decide) (by decide) ?_
    intro r4 h3 hQ sz_h3
    obtain ⟨lo2, i_lo2, rfl, N_lo2, X_lo2, F_lo2, I_lo2⟩ := hQ
    have E0 := Ext.trans E0 N_lo2
    have E1 := Ext.trans E1 N_lo2
    show Go p l e _ s m _ below meth c _ _ _ _ _ _ _ _ _ h3 22 78 (mkF m 95 #[.val (.int a), .val (.int b), .val (.int cc), .val (.int s3), .val (.ref lo1), .unset, .unset, .unset, .unset, .unset] [(.ref lo2)])
    have E2 := Ext.refl h3
    refine Go.astore K (q := 97) rfl (L' := #[.val (.int a), .val (.int b), .val (.int cc), .val (.int s3), .val (.ref lo1), .val (.ref lo2), .unset, .unset, .unset, .unset]) at_95 rfl rfl ?_
    refine Go.iloadN K (q := 98) rfl at_97 rfl ?_
    refine Go.aload K (q := 100) rfl at_98 rfl rfl ?_
    refine Go.cS K (q := 103) rfl (y := (⟨"com/example/vestline/vestline/ocf/FindingEqualsPinLaw", "finding", "(ILcom/example/vestline/vestline/input/Location;)Lcom/example/vestline/vestline/ocf/Finding;"⟩ : MethodName)) (c_find l Z a0 hw xs n0 h3 (Nat.le_trans Z0 E0.1) a lo1 i_lo1 z (Sa.ext E0) hz k0 k1 k2 k3 (T0.ext E0) (T1.ext E0) (T2.ext E0) (T3.ext E0) (X_lo1.ext E1) (F_lo1.ext E1) (own_ext I_lo1 E1)) (hw _ (List.mem_of_getElem? (i := 51) rfl)) (hw _ (List.mem_of_getElem? (i := 52) rfl)) (hw _ (List.mem_of_getElem? (i := 4) rfl)) (hw _ (List.mem_of_getElem? (i := 53) rfl)) (by decide) pd16 (argsL := [(.int a), (.ref lo1)]) (rest := []) rfl rfl rfl rfl (W := 0) (Nat.le_of_eq rfl) (by decide) (by decide) at_100 (cells' := 37) (slots' := 111) rfl rfl (by decide) (by decide) ?_
    intro r6 h5 hQ sz_h5
    obtain ⟨f1, rfl, N_f1, A_f1⟩ := hQ
    have E0 := Ext.trans E0 N_f1
    have E1 := Ext.trans E1 N_f1
    have E2 := Ext.trans E2 N_f1
    show Go p l e _ s m _ below meth c _ _ _ _ _ _ _ _ _ h5 37 111 (mkF m 103 #[.val (.int a), .val (.int b), .val (.int cc), .val (.int s3), .val (.ref lo1), .val (.ref lo2), .unset, .unset, .unset, .unset] [(.ref f1)])
    have E3 := Ext.refl h5
    refine Go.astore K (q := 105) rfl (L' := #[.val (.int a), .val (.int b), .val (.int cc), .val (.int s3), .val (.ref lo1), .val (.ref lo2), .val (.ref f1), .unset, .unset, .unset]) at_103 rfl rfl ?_
    refine Go.iloadN K (q := 106) rfl at_105 rfl ?_
    refine Go.aload K (q := 108) rfl at_106 rfl rfl ?_
    refine Go.cS K (q := 111) rfl (y := (⟨"com/example/vestline/vestline/ocf/FindingEqualsPinLaw", "finding", "(ILcom/example/vestline/vestline/input/Location;)Lcom/example/vestline/vestline/ocf/Finding;"⟩ : MethodName)) (c_find l Z a0 hw xs n0 h5 (Nat.le_trans Z0 E0.1) s3 lo2 i_lo2 z (Sa.ext E0) hz k0 k1 k2 k3 (T0.ext E0) (T1.ext E0) (T2.ext E0) (T3.ext E0) (X_lo2.ext E2) (F_lo2.ext E2) (own_ext I_lo2 E2)) (hw _ (List.mem_of_getElem? (i := 51) rfl)) (hw _ (List.mem_of_getElem? (i := 52) rfl)) (hw _ (List.mem_of_getElem? (i := 4) rfl)) (hw _ (List.mem_of_getElem? (i := 53) rfl)) (by decide) pd16 (argsL := [(.int s3), (.ref lo2)]) (rest := []) rfl rfl rfl rfl (W := 0) (Nat.le_of_eq rfl) (by decide) (by decide) at_108 (cells' := 52) (slots' := 144) rfl rfl (by decide) (by decide) ?_
    intro r8 h7 hQ sz_h7
    obtain ⟨f2, rfl, N_f2, A_f2⟩ := hQ
    have E0 := Ext.trans E0 N_f2
    have E1 := Ext.trans E1 N_f2
    have E2 := Ext.trans E2 N_f2
    have E3 := Ext.trans E3 N_f2
    show Go p l e _ s m _ below meth c _ _ _ _ _ _ _ _ _ h7 52 144 (mkF m 111 #[.val (.int a), .val (.int b), .val (.int cc), .val (.int s3), .val (.ref lo1), .val (.ref lo2), .val (.ref f1), .unset, .unset, .unset] [(.ref f2)])
    have E4 := Ext.refl h7
    refine Go.astore K (q := 113) rfl (L' := #[.val (.int a), .val (.int b), .val (.int cc), .val (.int s3), .val (.ref lo1), .val (.ref lo2), .val (.ref f1), .val (.ref f2), .unset, .unset]) at_111 rfl rfl ?_
    refine Go.iloadN K (q := 114) rfl at_113 rfl ?_
    refine Go.bipush K (q := 116) rfl (v := (22 : Int32)) (by decide) at_114 ?_
    refine Go.iushr K (q := 117) rfl at_116 ?_
    refine Go.bipush K (q := 119) rfl (v := (7 : Int32)) (by decide) at_117 ?_
    refine Go.iand K (q := 120) rfl at_119 ?_
    refine Go.istore K (q := 122) rfl (L' := #[.val (.int a), .val (.int b), .val (.int cc), .val (.int s3), .val (.ref lo1), .val (.ref lo2), .val (.ref f1), .val (.ref f2), .val (.int (((cc.toUInt32 >>> ((22 : Int32) &&& 31).toUInt32).toInt32) &&& (7 : Int32))), .unset]) at_120 rfl ?_
    refine Go.iload K (q := 124) rfl at_122 rfl ?_
    refine Go.ifc K (q := 142) (q' := 127) (by decide) (by decide) rfl at_124 (fun (hm0 : ¬ (((cc.toUInt32 >>> ((22 : Int32) &&& 31).toUInt32).toInt32) &&& (7 : Int32)) = (0 : Int32)) => ?_) (fun (hm0 : (((cc.toUInt32 >>> ((22 : Int32) &&& 31).toUInt32).toInt32) &&& (7 : Int32)) = (0 : Int32)) => ?_)
    · skip
      refine Go.iload K (q := 144) rfl at_142 rfl ?_
      refine Go.iconst K (q := 145) rfl (v := (1 : Int32)) (by decide) at_144 ?_
      refine Go.icmp K (q := 164) (q' := 148) (by decide) (by decide) rfl at_145 (fun (hm1 : ¬ (((cc.toUInt32 >>> ((22 : Int32) &&& 31).toUInt32).toInt32) &&& (7 : Int32)) = (1 : Int32)) => ?_) (fun (hm1 : (((cc.toUInt32 >>> ((22 : Int32) &&& 31).toUInt32).toInt32) &&& (7 : Int32)) = (1 : Int32)) => ?_)
      · skip
        refine Go.iload K (q := 166) rfl at_164 rfl ?_
        refine Go.iconst K (q := 167) rfl (v := (2 : Int32)) (by decide) at_166 ?_
        refine Go.icmp K (q := 178) (q' := 170) (by decide) (by decide) rfl at_167 (fun (hm2 : ¬ (((cc.toUInt32 >>> ((22 : Int32) &&& 31).toUInt32).toInt32) &&& (7 : Int32)) = (2 : Int32)) => ?_) (fun (hm2 : (((cc.toUInt32 >>> ((22 : Int32) &&& 31).toUInt32).toInt32) &&& (7 : Int32)) = (2 : Int32)) => ?_)
        · skip
          refine Go.iloadN K (q := 179) rfl at_178 rfl ?_
          refine Go.iconst K (q := 180) rfl (v := (1 : Int32)) (by decide) at_179 ?_
          refine Go.iand K (q := 181) rfl at_180 ?_
          refine Go.iloadN K (q := 182) rfl at_181 rfl ?_
          refine Go.iconst K (q := 183) rfl (v := (1 : Int32)) (by decide) at_182 ?_
          refine Go.iushr K (q := 184) rfl at_183 ?_
          refine Go.sipush K (q := 187) rfl (v := (255 : Int32)) (by decide) at_184 ?_
          refine Go.iand K (q := 188) rfl at_187 ?_
          refine Go.iloadN K (q := 189) rfl at_188 rfl ?_
          refine Go.iconst K (q := 190) rfl (v := (1 : Int32)) (by decide) at_189 ?_
          refine Go.iand K (q := 191) rfl at_190 ?_
          refine Go.iloadN K (q := 192) rfl at_191 rfl ?_
          refine Go.iconst K (q := 193) rfl (v := (1 : Int32)) (by decide) at_192 ?_
          refine Go.iushr K (q := 194) rfl at_193 ?_
          refine Go.sipush K (q := 197) rfl (v := (255 : Int32)) (by decide) at_194 ?_
          refine Go.iand K (q := 198) rfl at_197 ?_
          show Go p l e _ s m _ below meth c _ _ _ _ _ _ _ _ _ h7 52 144 (mkF m 198 #[.val (.int a), .val (.int b), .val (.int cc), .val (.int s3), .val (.ref lo1), .val (.ref lo2), .val (.ref f1), .val (.ref f2), .val (.int (((cc.toUInt32 >>> ((22 : Int32) &&& 31).toUInt32).toInt32) &&& (7 : Int32))), .unset] [(.int (((s3.toUInt32 >>> ((1 : Int32) &&& 31).toUInt32).toInt32) &&& (255 : Int32))), (.int (s3 &&& (1 : Int32))), (.int (((a.toUInt32 >>> ((1 : Int32) &&& 31).toUInt32).toInt32) &&& (255 : Int32))), (.int (a &&& (1 : Int32)))])
          have key : ∀ ev : Int32, ev = (if (own_s (a &&& (1 : Int32)) (((a.toUInt32 >>> ((1 : Int32) &&& 31).toUInt32).toInt32) &&& (255 : Int32))) = (own_s (s3 &&& (1 : Int32)) (((s3.toUInt32 >>> ((1 : Int32) &&& 31).toUInt32).toInt32) &&& (255 : Int32))) ∧ (own_item a) = (own_item s3) ∧ (own_kd k0 k1 k2 k3 (((a.toUInt32 >>> ((19 : Int32) &&& 31).toUInt32).toInt32) &&& (3 : Int32))) = (own_kd k0 k1 k2 k3 (((s3.toUInt32 >>> ((19 : Int32) &&& 31).toUInt32).toInt32) &&& (3 : Int32))) ∧ (own_s (((a.toUInt32 >>> ((21 : Int32) &&& 31).toUInt32).toInt32) &&& (1 : Int32)) (((a.toUInt32 >>> ((22 : Int32) &&& 31).toUInt32).toInt32) &&& (255 : Int32))) = (own_s (((s3.toUInt32 >>> ((21 : Int32) &&& 31).toUInt32).toInt32) &&& (1 : Int32)) (((s3.toUInt32 >>> ((22 : Int32) &&& 31).toUInt32).toInt32) &&& (255 : Int32))) then (1 : Int32) else 0) → Go p l e room_1 s m #[(.int a), (.int b), (.int cc)] below meth c Z "com/example/vestline/vestline/ocf/FindingEqualsPinLaw" consts_1 xs n0 room_1.cells room_1.slots (fun v h' => v = some (.int 1)) xs h7 52 144 (mkF m 288 #[.val (.int a), .val (.int b), .val (.int cc), .val (.int s3), .val (.ref lo1), .val (.ref lo2), .val (.ref f1), .val (.ref f2), .val (.int (((cc.toUInt32 >>> ((22 : Int32) &&& 31).toUInt32).toInt32) &&& (7 : Int32))), .unset] [(.int ev)]) := by
            intro ev hev
            refine Go.istore K (q := 290) rfl (L' := #[.val (.int a), .val (.int b), .val (.int cc), .val (.int s3), .val (.ref lo1), .val (.ref lo2), .val (.ref f1), .val (.ref f2), .val (.int (((cc.toUInt32 >>> ((22 : Int32) &&& 31).toUInt32).toInt32) &&& (7 : Int32))), .val (.int ev)]) at_288 rfl ?_
            refine Go.aload K (q := 292) rfl at_290 rfl rfl ?_
            refine Go.aload K (q := 294) rfl at_292 rfl rfl ?_
            refine Go.cV K (q := 297) rfl (y := (⟨"com/example/vestline/vestline/ocf/Finding", "equals", "(Ljava/lang/Object;)Z"⟩ : MethodName)) (z := (⟨"com/example/vestline/vestline/ocf/Finding", "equals", "(Ljava/lang/Object;)Z"⟩ : MethodName)) (c_eq l Z a0 hw xs n0 h7 (Nat.le_trans Z0 E0.1) f1 f2 _ _ _ _ _ _ _ _ z (Sa.ext E0) hz (A_f1.ext E3) (A_f2.ext E4) (own_len _ _) (own_len _ _) (own_len _ _) (own_len _ _) (own_len _ _) (own_len _ _)) (hw _ (List.mem_of_getElem? (i := 95) rfl)) (hw _ (List.mem_of_getElem? (i := 96) rfl)) (nfS (hw _ (List.mem_of_getElem? (i := 98) rfl))) (hw _ (List.mem_of_getElem? (i := 98) rfl)) (hw _ (List.mem_of_getElem? (i := 97) rfl)) (hw _ (List.mem_of_getElem? (i := 56) rfl)) (hw _ (List.mem_of_getElem? (i := 99) rfl)) (by decide) (A_f1.1.ext E3) pd14 (argsL := [(.ref f2)]) (rest := []) rfl rfl rfl rfl (W := 0) (Nat.le_of_eq rfl) (by decide) (by decide) at_294 (cells' := 52) (slots' := 144) rfl rfl (by decide) (by decide) ?_
            intro r10 h9 hQ sz_h9
            obtain ⟨rfl, rfl⟩ := hQ
            show Go p l e _ s m _ below meth c _ _ _ _ _ _ _ _ _ h7 52 144 (mkF m 297 #[.val (.int a), .val (.int b), .val (.int cc), .val (.int s3), .val (.ref lo1), .val (.ref lo2), .val (.ref f1), .val (.ref f2), .val (.int (((cc.toUInt32 >>> ((22 : Int32) &&& 31).toUInt32).toInt32) &&& (7 : Int32))), .val (.int ev)] [(.int (if (own_s (a &&& (1 : Int32)) (((a.toUInt32 >>> ((1 : Int32) &&& 31).toUInt32).toInt32) &&& (255 : Int32))) = (own_s (s3 &&& (1 : Int32)) (((s3.toUInt32 >>> ((1 : Int32) &&& 31).toUInt32).toInt32) &&& (255 : Int32))) ∧ (own_item a) = (own_item s3) ∧ (own_kd k0 k1 k2 k3 (((a.toUInt32 >>> ((19 : Int32) &&& 31).toUInt32).toInt32) &&& (3 : Int32))) = (own_kd k0 k1 k2 k3 (((s3.toUInt32 >>> ((19 : Int32) &&& 31).toUInt32).toInt32) &&& (3 : Int32))) ∧ (own_s (((a.toUInt32 >>> ((21 : Int32) &&& 31).toUInt32).toInt32) &&& (1 : Int32)) (((a.toUInt32 >>> ((22 : Int32) &&& 31).toUInt32).toInt32) &&& (255 : Int32))) = (own_s (((s3.toUInt32 >>> ((21 : Int32) &&& 31).toUInt32).toInt32) &&& (1 : Int32)) (((s3.toUInt32 >>> ((22 : Int32) &&& 31).toUInt32).toInt32) &&& (255 : Int32))) then 1 else 0))])
            refine Go.iload K (q := 299) rfl at_297 rfl ?_
            refine Go.icmpN K (q := 302) rfl at_299 (show (if (own_s (a &&& (1 : Int32)) (((a.toUInt32 >>> ((1 : Int32) &&& 31).toUInt32).toInt32) &&& (255 : Int32))) = (own_s (s3 &&& (1 : Int32)) (((s3.toUInt32 >>> ((1 : Int32) &&& 31).toUInt32).toInt32) &&& (255 : Int32))) ∧ (own_item a) = (own_item s3) ∧ (own_kd k0 k1 k2 k3 (((a.toUInt32 >>> ((19 : Int32) &&& 31).toUInt32).toInt32) &&& (3 : Int32))) = (own_kd k0 k1 k2 k3 (((s3.toUInt32 >>> ((19 : Int32) &&& 31).toUInt32).toInt32) &&& (3 : Int32))) ∧ (own_s (((a.toUInt32 >>> ((21 : Int32) &&& 31).toUInt32).toInt32) &&& (1 : Int32)) (((a.toUInt32 >>> ((22 : Int32) &&& 31).toUInt32).toInt32) &&& (255 : Int32))) = (own_s (((s3.toUInt32 >>> ((21 : Int32) &&& 31).toUInt32).toInt32) &&& (1 : Int32)) (((s3.toUInt32 >>> ((22 : Int32) &&& 31).toUInt32).toInt32) &&& (255 : Int32))) then 1 else 0) = ev from hev.symm) ?_
            refine Go.iconst K (q := 303) rfl (v := (1 : Int32)) (by decide) at_302 ?_
            refine Go.goto K (q := 307) (by decide) (by decide) at_303 ?_
            exact Go.retN K (by simp) at_307 (by decide) (by decide) (fun _ q => q) (rfl)
          refine Go.cS K (q := 201) rfl (y := (⟨"com/example/vestline/vestline/ocf/FindingEqualsPinLaw", "sameStr", "(IIII)Z"⟩ : MethodName)) (c_ss l Z a0 hw xs n0 h7 (Nat.le_trans Z0 E0.1) (a &&& (1 : Int32)) (((a.toUInt32 >>> ((1 : Int32) &&& 31).toUInt32).toInt32) &&& (255 : Int32)) (s3 &&& (1 : Int32)) (((s3.toUInt32 >>> ((1 : Int32) &&& 31).toUInt32).toInt32) &&& (255 : Int32))) (hw _ (List.mem_of_getElem? (i := 109) rfl)) (hw _ (List.mem_of_getElem? (i := 110) rfl)) (hw _ (List.mem_of_getElem? (i := 4) rfl)) (hw _ (List.mem_of_getElem? (i := 111) rfl)) (by decide) pd17 (argsL := [(.int (a &&& (1 : Int32))), (.int (((a.toUInt32 >>> ((1 : Int32) &&& 31).toUInt32).toInt32) &&& (255 : Int32))), (.int (s3 &&& (1 : Int32))), (.int (((s3.toUInt32 >>> ((1 : Int32) &&& 31).toUInt32).toInt32) &&& (255 : Int32)))]) (rest := []) rfl rfl rfl rfl (W := 0) (Nat.le_of_eq rfl) (by decide) (by decide) at_198 (cells' := 52) (slots' := 144) rfl rfl (by decide) (by decide) ?_
          intro r12 h11 hQ sz_h11
          obtain ⟨rfl, rfl⟩ := hQ
          show Go p l e _ s m _ below meth c _ _ _ _ _ _ _ _ _ h7 52 144 (mkF m 201 #[.val (.int a), .val (.int b), .val (.int cc), .val (.int s3), .val (.ref lo1), .val (.ref lo2), .val (.ref f1), .val (.ref f2), .val (.int (((cc.toUInt32 >>> ((22 : Int32) &&& 31).toUInt32).toInt32) &&& (7 : Int32))), .unset] [(.int (own_ss (a &&& (1 : Int32)) (((a.toUInt32 >>> ((1 : Int32) &&& 31).toUInt32).toInt32) &&& (255 : Int32)) (s3 &&& (1 : Int32)) (((s3.toUInt32 >>> ((1 : Int32) &&& 31).toUInt32).toInt32) &&& (255 : Int32))))])
          refine Go.ifc K (q := 287) (q' := 204) (by decide) (by decide) rfl at_201 (fun (g1 : (own_ss (a &&& (1 : Int32)) (((a.toUInt32 >>> ((1 : Int32) &&& 31).toUInt32).toInt32) &&& (255 : Int32)) (s3 &&& (1 : Int32)) (((s3.toUInt32 >>> ((1 : Int32) &&& 31).toUInt32).toInt32) &&& (255 : Int32))) = (0 : Int32)) => ?_) (fun (g1 : ¬ (own_ss (a &&& (1 : Int32)) (((a.toUInt32 >>> ((1 : Int32) &&& 31).toUInt32).toInt32) &&& (255 : Int32)) (s3 &&& (1 : Int32)) (((s3.toUInt32 >>> ((1 : Int32) &&& 31).toUInt32).toInt32) &&& (255 : Int32))) = (0 : Int32)) => ?_)
          · skip
            refine Go.iconst K (q := 288) rfl (v := (0 : Int32)) (by decide) at_287 ?_
            exact key _ (if_neg fun q => own_ss0 (own_2 _) (own_2 _) g1 q.1).symm
          · skip
            refine Go.iloadN K (q := 205) rfl at_204 rfl ?_
            refine Go.cS K (q := 208) rfl (y := (⟨"com/example/vestline/vestline/ocf/FindingEqualsPinLaw", "itemLen", "(I)I"⟩ : MethodName)) (c_il l Z a0 hw xs n0 h7 (Nat.le_trans Z0 E0.1) a) (hw _ (List.mem_of_getElem? (i := 104) rfl)) (hw _ (List.mem_of_getElem? (i := 105) rfl)) (hw _ (List.mem_of_getElem? (i := 4) rfl)) (hw _ (List.mem_of_getElem? (i := 106) rfl)) (by decide) pd9 (argsL := [(.int a)]) (rest := []) rfl rfl rfl rfl (W := 0) (Nat.le_of_eq rfl) (by decide) (by decide) at_205 (cells' := 52) (slots' := 144) rfl rfl (by decide) (by decide) ?_
            intro r14 h13 hQ sz_h13
            obtain ⟨rfl, rfl⟩ := hQ
            show Go p l e _ s m _ below meth c _ _ _ _ _ _ _ _ _ h7 52 144 (mkF m 208 #[.val (.int a), .val (.int b), .val (.int cc), .val (.int s3), .val (.ref lo1), .val (.ref lo2), .val (.ref f1), .val (.ref f2), .val (.int (((cc.toUInt32 >>> ((22 : Int32) &&& 31).toUInt32).toInt32) &&& (7 : Int32))), .unset] [(.int (own_il a))])
            refine Go.iloadN K (q := 209) rfl at_208 rfl ?_
            refine Go.bipush K (q := 211) rfl (v := (11 : Int32)) (by decide) at_209 ?_
            refine Go.iushr K (q := 212) rfl at_211 ?_
            refine Go.sipush K (q := 215) rfl (v := (255 : Int32)) (by decide) at_212 ?_
            refine Go.iand K (q := 216) rfl at_215 ?_
            refine Go.iloadN K (q := 217) rfl at_216 rfl ?_
            refine Go.cS K (q := 220) rfl (y := (⟨"com/example/vestline/vestline/ocf/FindingEqualsPinLaw", "itemLen", "(I)I"⟩ : MethodName)) (c_il l Z a0 hw xs n0 h7 (Nat.le_trans Z0 E0.1) s3) (hw _ (List.mem_of_getElem? (i := 104) rfl)) (hw _ (List.mem_of_getElem? (i := 105) rfl)) (hw _ (List.mem_of_getElem? (i := 4) rfl)) (hw _ (List.mem_of_getElem? (i := 106) rfl)) (by decide) pd9 (argsL := [(.int s3)]) (rest := [(.int (((a.toUInt32 >>> ((11 : Int32) &&& 31).toUInt32).toInt32) &&& (255 : Int32))), (.int (own_il a))]) rfl rfl rfl rfl (W := 2) (Nat.le_of_eq rfl) (by decide) (by decide) at_217 (cells' := 52) (slots' := 144) rfl rfl (by decide) (by decide) ?_
            intro r16 h15 hQ sz_h15
            obtain ⟨rfl, rfl⟩ := hQ
            show Go p l e _ s m _ below meth c _ _ _ _ _ _ _ _ _ h7 52 144 (mkF m 220 #[.val (.int a), .val (.int b), .val (.int cc), .val (.int s3), .val (.ref lo1), .val (.ref lo2), .val (.ref f1), .val (.ref f2), .val (.int (((cc.toUInt32 >>> ((22 : Int32) &&& 31).toUInt32).toInt32) &&& (7 : Int32))), .unset] [(.int (own_il s3)), (.int (((a.toUInt32 >>> ((11 : Int32) &&& 31).toUInt32).toInt32) &&& (255 : Int32))), (.int (own_il a))])
            refine Go.iloadN K (q := 221) rfl at_220 rfl ?_
            refine Go.bipush K (q := 223) rfl (v := (11 : Int32)) (by decide) at_221 ?_
            refine Go.iushr K (q := 224) rfl at_223 ?_
            refine Go.sipush K (q := 227) rfl (v := (255 : Int32)) (by decide) at_224 ?_
            refine Go.iand K (q := 228) rfl at_227 ?_
            refine Go.cS K (q := 231) rfl (y := (⟨"com/example/vestline/vestline/ocf/FindingEqualsPinLaw", "sameStr", "(IIII)Z"⟩ : MethodName)) (c_ss l Z a0 hw xs n0 h7 (Nat.le_trans Z0 E0.1) (own_il a) (((a.toUInt32 >>> ((11 : Int32) &&& 31).toUInt32).toInt32) &&& (255 : Int32)) (own_il s3) (((s3.toUInt32 >>> ((11 : Int32) &&& 31).toUInt32).toInt32) &&& (255 : Int32))) (hw _ (List.mem_of_getElem? (i := 109) rfl)) (hw _ (List.mem_of_getElem? (i := 110) rfl)) (hw _ (List.mem_of_getElem? (i := 4) rfl)) (hw _ (List.mem_of_getElem? (i := 111) rfl)) (by decide) pd17 (argsL := [(.int (own_il a)), (.int (((a.toUInt32 >>> ((11 : Int32) &&& 31).toUInt32).toInt32) &&& (255 : Int32))), (.int (own_il s3)), (.int (((s3.toUInt32 >>> ((11 : Int32) &&& 31).toUInt32).toInt32) &&& (255 : Int32)))]) (rest := []) rfl rfl rfl rfl (W := 0) (Nat.le_of_eq rfl) (by decide) (by decide) at_228 (cells' := 52) (slots' := 144) rfl rfl (by decide) (by decide) ?_
            intro r18 h17 hQ sz_h17
            obtain ⟨rfl, rfl⟩ := hQ
            show Go p l e _ s m _ below meth c _ _ _ _ _ _ _ _ _ h7 52 144 (mkF m 231 #[.val (.int a), .val (.int b), .val (.int cc), .val (.int s3), .val (.ref lo1), .val (.ref lo2), .val (.ref f1), .val (.ref f2), .val (.int (((cc.toUInt32 >>> ((22 : Int32) &&& 31).toUInt32).toInt32) &&& (7 : Int32))), .unset] [(.int (own_ss (own_il a) (((a.toUInt32 >>> ((11 : Int32) &&& 31).toUInt32).toInt32) &&& (255 : Int32)) (own_il s3) (((s3.toUInt32 >>> ((11 : Int32) &&& 31).toUInt32).toInt32) &&& (255 : Int32))))])
            refine Go.ifc K (q := 287) (q' := 234) (by decide) (by decide) rfl at_231 (fun (g2 : (own_ss (own_il a) (((a.toUInt32 >>> ((11 : Int32) &&& 31).toUInt32).toInt32) &&& (255 : Int32)) (own_il s3) (((s3.toUInt32 >>> ((11 : Int32) &&& 31).toUInt32).toInt32) &&& (255 : Int32))) = (0 : Int32)) => ?_) (fun (g2 : ¬ (own_ss (own_il a) (((a.toUInt32 >>> ((11 : Int32) &&& 31).toUInt32).toInt32) &&& (255 : Int32)) (own_il s3) (((s3.toUInt32 >>> ((11 : Int32) &&& 31).toUInt32).toInt32) &&& (255 : Int32))) = (0 : Int32)) => ?_)
            · skip
              refine Go.iconst K (q := 288) rfl (v := (0 : Int32)) (by decide) at_287 ?_
              exact key _ (if_neg fun q => own_ss0 (own_ilb _) (own_ilb _) g2 q.2.1).symm
            · skip
              refine Go.iloadN K (q := 235) rfl at_234 rfl ?_
              refine Go.bipush K (q := 237) rfl (v := (19 : Int32)) (by decide) at_235 ?_
              refine Go.iushr K (q := 238) rfl at_237 ?_
              refine Go.iconst K (q := 239) rfl (v := (3 : Int32)) (by decide) at_238 ?_
              refine Go.iand K (q := 240) rfl at_239 ?_
              refine Go.iloadN K (q := 241) rfl at_240 rfl ?_
              refine Go.bipush K (q := 243) rfl (v := (19 : Int32)) (by decide) at_241 ?_
              refine Go.iushr K (q := 244) rfl at_243 ?_
              refine Go.iconst K (q := 245) rfl (v := (3 : Int32)) (by decide) at_244 ?_
              refine Go.iand K (q := 246) rfl at_245 ?_
              refine Go.icmp K (q := 287) (q' := 249) (by decide) (by decide) rfl at_246 (fun (g3 : ¬ (((a.toUInt32 >>> ((19 : Int32) &&& 31).toUInt32).toInt32) &&& (3 : Int32)) = (((s3.toUInt32 >>> ((19 : Int32) &&& 31).toUInt32).toInt32) &&& (3 : Int32))) => ?_) (fun (g3 : (((a.toUInt32 >>> ((19 : Int32) &&& 31).toUInt32).toInt32) &&& (3 : Int32)) = (((s3.toUInt32 >>> ((19 : Int32) &&& 31).toUInt32).toInt32) &&& (3 : Int32))) => ?_)
              · skip
                refine Go.iconst K (q := 288) rfl (v := (0 : Int32)) (by decide) at_287 ?_
                exact key _ (if_neg fun q => (fun q => g3 ((own_kdi (own_4 _) (own_4 _) d01 d02 d03 d12 d13 d23).mp q)) q.2.2.1).symm
              · skip
                refine Go.iloadN K (q := 250) rfl at_249 rfl ?_
                refine Go.bipush K (q := 252) rfl (v := (21 : Int32)) (by decide) at_250 ?_
                refine Go.iushr K (q := 253) rfl at_252 ?_
                refine Go.iconst K (q := 254) rfl (v := (1 : Int32)) (by decide) at_253 ?_
                refine Go.iand K (q := 255) rfl at_254 ?_
                refine Go.iloadN K (q := 256) rfl at_255 rfl ?_
                refine Go.bipush K (q := 258) rfl (v := (22 : Int32)) (by decide) at_256 ?_
                refine Go.iushr K (q := 259) rfl at_258 ?_
                refine Go.sipush K (q := 262) rfl (v := (255 : Int32)) (by decide) at_259 ?_
                refine Go.iand K (q := 263) rfl at_262 ?_
                refine Go.iloadN K (q := 264) rfl at_263 rfl ?_
                refine Go.bipush K (q := 266) rfl (v := (21 : Int32)) (by decide) at_264 ?_
                refine Go.iushr K (q := 267) rfl at_266 ?_
                refine Go.iconst K (q := 268) rfl (v := (1 : Int32)) (by decide) at_267 ?_
                refine Go.iand K (q := 269) rfl at_268 ?_
                refine Go.iloadN K (q := 270) rfl at_269 rfl ?_
                refine Go.bipush K (q := 272) rfl (v := (22 : Int32)) (by decide) at_270 ?_
                refine Go.iushr K (q := 273) rfl at_272 ?_
                refine Go.sipush K (q := 276) rfl (v := (255 : Int32)) (by decide) at_273 ?_
                refine Go.iand K (q := 277) rfl at_276 ?_
                refine Go.cS K (q := 280) rfl (y := (⟨"com/example/vestline/vestline/ocf/FindingEqualsPinLaw", "sameStr", "(IIII)Z"⟩ : MethodName)) (c_ss l Z a0 hw xs n0 h7 (Nat.le_trans Z0 E0.1) (((a.toUInt32 >>> ((21 : Int32) &&& 31).toUInt32).toInt32) &&& (1 : Int32)) (((a.toUInt32 >>> ((22 : Int32) &&& 31).toUInt32).toInt32) &&& (255 : Int32)) (((s3.toUInt32 >>> ((21 : Int32) &&& 31).toUInt32).toInt32) &&& (1 : Int32)) (((s3.toUInt32 >>> ((22 : Int32) &&& 31).toUInt32).toInt32) &&& (255 : Int32))) (hw _ (List.mem_of_getElem? (i := 109) rfl)) (hw _ (List.mem_of_getElem? (i := 110) rfl)) (hw _ (List.mem_of_getElem? (i := 4) rfl)) (hw _ (List.mem_of_getElem? (i := 111) rfl)) (by decide) pd17 (argsL := [(.int (((a.toUInt32 >>> ((21 : Int32) &&& 31).toUInt32).toInt32) &&& (1 : Int32))), (.int (((a.toUInt32 >>> ((22 : Int32) &&& 31).toUInt32).toInt32) &&& (255 : Int32))), (.int (((s3.toUInt32 >>> ((21 : Int32) &&& 31).toUInt32).toInt32) &&& (1 : Int32))), (.int (((s3.toUInt32 >>> ((22 : Int32) &&& 31).toUInt32).toInt32) &&& (255 : Int32)))]) (rest := []) rfl rfl rfl rfl (W := 0) (Nat.le_of_eq rfl) (by decide) (by decide) at_277 (cells' := 52) (slots' := 144) rfl rfl (by decide) (by decide) ?_
                intro r20 h19 hQ sz_h19
                obtain ⟨rfl, rfl⟩ := hQ
                show Go p l e _ s m _ below meth c _ _ _ _ _ _ _ _ _ h7 52 144 (mkF m 280 #[.val (.int a), .val (.int b), .val (.int cc), .val (.int s3), .val (.ref lo1), .val (.ref lo2), .val (.ref f1), .val (.ref f2), .val (.int (((cc.toUInt32 >>> ((22 : Int32) &&& 31).toUInt32).toInt32) &&& (7 : Int32))), .unset] [(.int (own_ss (((a.toUInt32 >>> ((21 : Int32) &&& 31).toUInt32).toInt32) &&& (1 : Int32)) (((a.toUInt32 >>> ((22 : Int32) &&& 31).toUInt32).toInt32) &&& (255 : Int32)) (((s3.toUInt32 >>> ((21 : Int32) &&& 31).toUInt32).toInt32) &&& (1 : Int32)) (((s3.toUInt32 >>> ((22 : Int32) &&& 31).toUInt32).toInt32) &&& (255 : Int32))))])
                refine Go.ifc K (q := 287) (q' := 283) (by decide) (by decide) rfl at_280 (fun (g4 : (own_ss (((a.toUInt32 >>> ((21 : Int32) &&& 31).toUInt32).toInt32) &&& (1 : Int32)) (((a.toUInt32 >>> ((22 : Int32) &&& 31).toUInt32).toInt32) &&& (255 : Int32)) (((s3.toUInt32 >>> ((21 : Int32) &&& 31).toUInt32).toInt32) &&& (1 : Int32)) (((s3.toUInt32 >>> ((22 : Int32) &&& 31).toUInt32).toInt32) &&& (255 : Int32))) = (0 : Int32)) => ?_) (fun (g4 : ¬ (own_ss (((a.toUInt32 >>> ((21 : Int32) &&& 31).toUInt32).toInt32) &&& (1 : Int32)) (((a.toUInt32 >>> ((22 : Int32) &&& 31).toUInt32).toInt32) &&& (255 : Int32)) (((s3.toUInt32 >>> ((21 : Int32) &&& 31).toUInt32).toInt32) &&& (1 : Int32)) (((s3.toUInt32 >>> ((22 : Int32) &&& 31).toUInt32).toInt32) &&& (255 : Int32))) = (0 : Int32)) => ?_)
                · skip
                  refine Go.iconst K (q := 288) rfl (v := (0 : Int32)) (by decide) at_287 ?_
                  exact key _ (if_neg fun q => own_ss0 (own_2 _) (own_2 _) g4 q.2.2.2).symm
                · skip
                  refine Go.iconst K (q := 284) rfl (v := (1 : Int32)) (by decide) at_283 ?_
                  refine Go.goto K (q := 288) (by decide) (by decide) at_284 ?_
                  exact key _ (if_pos ⟨own_ss1 (own_2 _) (own_2 _) g1, own_ss1 (own_ilb _) (own_ilb _) g2, by rw [g3], own_ss1 (own_2 _) (own_2 _) g4⟩).symm
        · skip
          refine Go.aload K (q := 172) rfl at_170 rfl rfl ?_
          refine Go.aload K (q := 174) rfl at_172 rfl rfl ?_
          refine Go.cV K (q := 177) rfl (y := (⟨"com/example/vestline/vestline/ocf/Finding", "equals", "(Ljava/lang/Object;)Z"⟩ : MethodName)) (z := (⟨"com/example/vestline/vestline/ocf/Finding", "equals", "(Ljava/lang/Object;)Z"⟩ : MethodName)) (c_eq l Z a0 hw xs n0 h7 (Nat.le_trans Z0 E0.1) f1 f1 _ _ _ _ _ _ _ _ z (Sa.ext E0) hz (A_f1.ext E3) (A_f1.ext E3) (own_len _ _) (own_len _ _) (own_len _ _) (own_len _ _) (own_len _ _) (own_len _ _)) (hw _ (List.mem_of_getElem? (i := 95) rfl)) (hw _ (List.mem_of_getElem? (i := 96) rfl)) (nfS (hw _ (List.mem_of_getElem? (i := 98) rfl))) (hw _ (List.mem_of_getElem? (i := 98) rfl)) (hw _ (List.mem_of_getElem? (i := 97) rfl)) (hw _ (List.mem_of_getElem? (i := 56) rfl)) (hw _ (List.mem_of_getElem? (i := 99) rfl)) (by decide) (A_f1.1.ext E3) pd14 (argsL := [(.ref f1)]) (rest := []) rfl rfl rfl rfl (W := 0) (Nat.le_of_eq rfl) (by decide) (by decide) at_174 (cells' := 52) (slots' := 144) rfl rfl (by decide) (by decide) ?_
          intro r22 h21 hQ sz_h21
          obtain ⟨rfl, rfl⟩ := hQ
          show Go p l e _ s m _ below meth c _ _ _ _ _ _ _ _ _ h7 52 144 (mkF m 177 #[.val (.int a), .val (.int b), .val (.int cc), .val (.int s3), .val (.ref lo1), .val (.ref lo2), .val (.ref f1), .val (.ref f2), .val (.int (((cc.toUInt32 >>> ((22 : Int32) &&& 31).toUInt32).toInt32) &&& (7 : Int32))), .unset] [(.int (if (own_s (a &&& (1 : Int32)) (((a.toUInt32 >>> ((1 : Int32) &&& 31).toUInt32).toInt32) &&& (255 : Int32))) = (own_s (a &&& (1 : Int32)) (((a.toUInt32 >>> ((1 : Int32) &&& 31).toUInt32).toInt32) &&& (255 : Int32))) ∧ (own_item a) = (own_item a) ∧ (own_kd k0 k1 k2 k3 (((a.toUInt32 >>> ((19 : Int32) &&& 31).toUInt32).toInt32) &&& (3 : Int32))) = (own_kd k0 k1 k2 k3 (((a.toUInt32 >>> ((19 : Int32) &&& 31).toUInt32).toInt32) &&& (3 : Int32))) ∧ (own_s (((a.toUInt32 >>> ((21 : Int32) &&& 31).toUInt32).toInt32) &&& (1 : Int32)) (((a.toUInt32 >>> ((22 : Int32) &&& 31).toUInt32).toInt32) &&& (255 : Int32))) = (own_s (((a.toUInt32 >>> ((21 : Int32) &&& 31).toUInt32).toInt32) &&& (1 : Int32)) (((a.toUInt32 >>> ((22 : Int32) &&& 31).toUInt32).toInt32) &&& (255 : Int32))) then 1 else 0))])
          exact Go.retN K (by simp) at_177 (by decide) (by decide) (fun _ q => q) (by rw [if_pos ⟨rfl, rfl, rfl, rfl⟩]; rfl)
      · skip
        refine Go.aload K (q := 150) rfl at_148 rfl rfl ?_
        refine Go.aload K (q := 152) rfl at_150 rfl rfl ?_
        refine Go.cV K (q := 155) rfl (y := (⟨"com/example/vestline/vestline/ocf/Finding", "equals", "(Ljava/lang/Object;)Z"⟩ : MethodName)) (z := (⟨"com/example/vestline/vestline/ocf/Finding", "equals", "(Ljava/lang/Object;)Z"⟩ : MethodName)) (c_eqs l Z a0 hw xs n0 h7 (Nat.le_trans Z0 E0.1) f1 lo1 (X_lo1.ext E1)) (hw _ (List.mem_of_getElem? (i := 95) rfl)) (hw _ (List.mem_of_getElem? (i := 96) rfl)) (nfS (hw _ (List.mem_of_getElem? (i := 98) rfl))) (hw _ (List.mem_of_getElem? (i := 98) rfl)) (hw _ (List.mem_of_getElem? (i := 97) rfl)) (hw _ (List.mem_of_getElem? (i := 56) rfl)) (hw _ (List.mem_of_getElem? (i := 99) rfl)) (by decide) (A_f1.1.ext E3) pd14 (argsL := [(.ref lo1)]) (rest := []) rfl rfl rfl rfl (W := 0) (Nat.le_of_eq rfl) (by decide) (by decide) at_152 (cells' := 52) (slots' := 144) rfl rfl (by decide) (by decide) ?_
        intro r24 h23 hQ sz_h23
        obtain ⟨rfl, rfl⟩ := hQ
        show Go p l e _ s m _ below meth c _ _ _ _ _ _ _ _ _ h7 52 144 (mkF m 155 #[.val (.int a), .val (.int b), .val (.int cc), .val (.int s3), .val (.ref lo1), .val (.ref lo2), .val (.ref f1), .val (.ref f2), .val (.int (((cc.toUInt32 >>> ((22 : Int32) &&& 31).toUInt32).toInt32) &&& (7 : Int32))), .unset] [(.int (0 : Int32))])
        refine Go.ifN K (q := 158) rfl at_155 (show (0 : Int32) = (0 : Int32) from rfl) ?_
        refine Go.iconst K (q := 159) rfl (v := (1 : Int32)) (by decide) at_158 ?_
        refine Go.goto K (q := 163) (by decide) (by decide) at_159 ?_
        exact Go.retN K (by simp) at_163 (by decide) (by decide) (fun _ q => q) (rfl)
    · skip
      refine Go.aload K (q := 129) rfl at_127 rfl rfl ?_
      refine Go.aconstNull K (q := 130) rfl at_129 ?_
      refine Go.cV K (q := 133) rfl (y := (⟨"com/example/vestline/vestline/ocf/Finding", "equals", "(Ljava/lang/Object;)Z"⟩ : MethodName)) (z := (⟨"com/example/vestline/vestline/ocf/Finding", "equals", "(Ljava/lang/Object;)Z"⟩ : MethodName)) (c_eqn l Z a0 hw xs n0 h7 (Nat.le_trans Z0 E0.1) f1) (hw _ (List.mem_of_getElem? (i := 95) rfl)) (hw _ (List.mem_of_getElem? (i := 96) rfl)) (nfS (hw _ (List.mem_of_getElem? (i := 98) rfl))) (hw _ (List.mem_of_getElem? (i := 98) rfl)) (hw _ (List.mem_of_getElem? (i := 97) rfl)) (hw _ (List.mem_of_getElem? (i := 56) rfl)) (hw _ (List.mem_of_getElem? (i := 99) rfl)) (by decide) (A_f1.1.ext E3) pd14 (argsL := [.null]) (rest := []) rfl rfl rfl rfl (W := 0) (Nat.le_of_eq rfl) (by decide) (by decide) at_130 (cells' := 52) (slots' := 144) rfl rfl (by decide) (by decide) ?_
      intro r26 h25 hQ sz_h25
      obtain ⟨rfl, rfl⟩ := hQ
      show Go p l e _ s m _ below meth c _ _ _ _ _ _ _ _ _ h7 52 144 (mkF m 133 #[.val (.int a), .val (.int b), .val (.int cc), .val (.int s3), .val (.ref lo1), .val (.ref lo2), .val (.ref f1), .val (.ref f2), .val (.int (((cc.toUInt32 >>> ((22 : Int32) &&& 31).toUInt32).toInt32) &&& (7 : Int32))), .unset] [(.int (0 : Int32))])
      refine Go.ifN K (q := 136) rfl at_133 (show (0 : Int32) = (0 : Int32) from rfl) ?_
      refine Go.iconst K (q := 137) rfl (v := (1 : Int32)) (by decide) at_136 ?_
      refine Go.goto K (q := 141) (by decide) (by decide) at_137 ?_
      exact Go.retN K (by simp) at_141 (by decide) (by decide) (fun _ q => q) (rfl)
  have key52 : ∀ s3 : Int32, Go p l e room_1 s m #[(.int a), (.int b), (.int cc)] below meth c Z "com/example/vestline/vestline/ocf/FindingEqualsPinLaw" consts_1 xs n0 room_1.cells room_1.slots (fun v h' => v = some (.int 1)) xs h 0 0 (mkF m 52 #[.val (.int a), .val (.int b), .val (.int cc), .val (.int s3), .unset, .unset, .unset, .unset, .unset, .unset] []) := by
    intro s3
    refine Go.iloadN K (q := 53) rfl at_52 rfl ?_
    refine Go.bipush K (q := 55) rfl (v := (8 : Int32)) (by decide) at_53 ?_
    refine Go.iand K (q := 56) rfl at_55 ?_
    refine Go.ifc K (q := 69) (q' := 59) (by decide) (by decide) rfl at_56 (fun (hb : (cc &&& (8 : Int32)) = (0 : Int32)) => ?_) (fun (hb : ¬ (cc &&& (8 : Int32)) = (0 : Int32)) => ?_)
    · skip
      exact key69 _
    · skip
      refine Go.iloadN K (q := 60) rfl at_59 rfl ?_
      refine Go.ldcInt K (q := 62) rfl (v := (-1071644673 : Int32)) (hw _ (List.mem_of_getElem? (i := 102) rfl)) at_60 ?_
      refine Go.iand K (q := 63) rfl at_62 ?_
      refine Go.iloadN K (q := 64) rfl at_63 rfl ?_
      refine Go.ldcInt K (q := 66) rfl (v := (1071644672 : Int32)) (hw _ (List.mem_of_getElem? (i := 103) rfl)) at_64 ?_
      refine Go.iand K (q := 67) rfl at_66 ?_
      refine Go.ior K (q := 68) rfl at_67 ?_
      refine Go.istoreN K (q := 69) rfl (L' := #[.val (.int a), .val (.int b), .val (.int cc), .val (.int ((s3 &&& (-1071644673 : Int32)) ||| (a &&& (1071644672 : Int32)))), .unset, .unset, .unset, .unset, .unset, .unset]) at_68 rfl ?_
      exact key69 _
  have key36 : ∀ s3 : Int32, Go p l e room_1 s m #[(.int a), (.int b), (.int cc)] below meth c Z "com/example/vestline/vestline/ocf/FindingEqualsPinLaw" consts_1 xs n0 room_1.cells room_1.slots (fun v h' => v = some (.int 1)) xs h 0 0 (mkF m 36 #[.val (.int a), .val (.int b), .val (.int cc), .val (.int s3), .unset, .unset, .unset, .unset, .unset, .unset] []) := by
    intro s3
    refine Go.iloadN K (q := 37) rfl at_36 rfl ?_
    refine Go.iconst K (q := 38) rfl (v := (4 : Int32)) (by decide) at_37 ?_
    refine Go.iand K (q := 39) rfl at_38 ?_
    refine Go.ifc K (q := 52) (q' := 42) (by decide) (by decide) rfl at_39 (fun (hb : (cc &&& (4 : Int32)) = (0 : Int32)) => ?_) (fun (hb : ¬ (cc &&& (4 : Int32)) = (0 : Int32)) => ?_)
    · skip
      exact key52 _
    · skip
      refine Go.iloadN K (q := 43) rfl at_42 rfl ?_
      refine Go.ldcInt K (q := 45) rfl (v := (-1572865 : Int32)) (hw _ (List.mem_of_getElem? (i := 100) rfl)) at_43 ?_
      refine Go.iand K (q := 46) rfl at_45 ?_
      refine Go.iloadN K (q := 47) rfl at_46 rfl ?_
      refine Go.ldcInt K (q := 49) rfl (v := (1572864 : Int32)) (hw _ (List.mem_of_getElem? (i := 101) rfl)) at_47 ?_
      refine Go.iand K (q := 50) rfl at_49 ?_
      refine Go.ior K (q := 51) rfl at_50 ?_
      refine Go.istoreN K (q := 52) rfl (L' := #[.val (.int a), .val (.int b), .val (.int cc), .val (.int ((s3 &&& (-1572865 : Int32)) ||| (a &&& (1572864 : Int32)))), .unset, .unset, .unset, .unset, .unset, .unset]) at_51 rfl ?_
      exact key52 _
  have key20 : ∀ s3 : Int32, Go p l e room_1 s m #[(.int a), (.int b), (.int cc)] below meth c Z "com/example/vestline/vestline/ocf/FindingEqualsPinLaw" consts_1 xs n0 room_1.cells room_1.slots (fun v h' => v = some (.int 1)) xs h 0 0 (mkF m 20 #[.val (.int a), .val (.int b), .val (.int cc), .val (.int s3), .unset, .unset, .unset, .unset, .unset, .unset] []) := by
    intro s3
    refine Go.iloadN K (q := 21) rfl at_20 rfl ?_
    refine Go.iconst K (q := 22) rfl (v := (2 : Int32)) (by decide) at_21 ?_
    refine Go.iand K (q := 23) rfl at_22 ?_
    refine Go.ifc K (q := 36) (q' := 26) (by decide) (by decide) rfl at_23 (fun (hb : (cc &&& (2 : Int32)) = (0 : Int32)) => ?_) (fun (hb : ¬ (cc &&& (2 : Int32)) = (0 : Int32)) => ?_)
    · skip
      exact key36 _
    · skip
      refine Go.iloadN K (q := 27) rfl at_26 rfl ?_
      refine Go.ldcInt K (q := 29) rfl (v := (-523777 : Int32)) (hw _ (List.mem_of_getElem? (i := 0) rfl)) at_27 ?_
      refine Go.iand K (q := 30) rfl at_29 ?_
      refine Go.iloadN K (q := 31) rfl at_30 rfl ?_
      refine Go.ldcInt K (q := 33) rfl (v := (523776 : Int32)) (hw _ (List.mem_of_getElem? (i := 1) rfl)) at_31 ?_
      refine Go.iand K (q := 34) rfl at_33 ?_
      refine Go.ior K (q := 35) rfl at_34 ?_
      refine Go.istoreN K (q := 36) rfl (L' := #[.val (.int a), .val (.int b), .val (.int cc), .val (.int ((s3 &&& (-523777 : Int32)) ||| (a &&& (523776 : Int32)))), .unset, .unset, .unset, .unset, .unset, .unset]) at_35 rfl ?_
      exact key36 _
  refine Go.iloadN K (q := 3) rfl at_2 rfl ?_
  refine Go.iconst K (q := 4) rfl (v := (1 : Int32)) (by decide) at_3 ?_
  refine Go.iand K (q := 5) rfl at_4 ?_
  refine Go.ifc K (q := 20) (q' := 8) (by decide) (by decide) rfl at_5 (fun (hb : (cc &&& (1 : Int32)) = (0 : Int32)) => ?_) (fun (hb : ¬ (cc &&& (1 : Int32)) = (0 : Int32)) => ?_)
  · skip
    exact key20 _
  · skip
    refine Go.iloadN K (q := 9) rfl at_8 rfl ?_
    refine Go.sipush K (q := 12) rfl (v := (-512 : Int32)) (by decide) at_9 ?_
    refine Go.iand K (q := 13) rfl at_12 ?_
    refine Go.iloadN K (q := 14) rfl at_13 rfl ?_
    refine Go.sipush K (q := 17) rfl (v := (511 : Int32)) (by decide) at_14 ?_
    refine Go.iand K (q := 18) rfl at_17 ?_
    refine Go.ior K (q := 19) rfl at_18 ?_
    refine Go.istoreN K (q := 20) rfl (L' := #[.val (.int a), .val (.int b), .val (.int cc), .val (.int ((b &&& (-512 : Int32)) ||| (a &&& (511 : Int32)))), .unset, .unset, .unset, .unset, .unset, .unset]) at_19 rfl ?_
    exact key20 _
set_option maxRecDepth 65536 in
set_option maxHeartbeats 40000000 in
theorem comes_1 {Post : Tables → Env → Array Value → State → Outcome → State → Prop} (hpost : ∀ tb e args s v u, (limb_1_1.after args s (.returned v) u = true ∧ limb_1_2.after args s (.returned v) u = true ∧ True) → ReturnedEndW s (.returned v) u (Jvm.fieldLocs frame_1_writes args s ++ Jvm.arrayLocs frame_1_arrays args s ++ Jvm.staticLocs frame_1_statics s) 56 3264 → Post tb e args s (.returned v) u) :
    ArmFor flags0 classFile x code maxLocals ret World_1 tables_1 room_1 Calls_1 rest_1 Pre_1 Post := by
  intro l hfl _ _ p e ha hc hk s m args below hf hA hF happ hP
  obtain ⟨hcalls, hrest, hpre⟩ := hP
  obtain ⟨-, -, -, hnamed, -, -, -, hat⟩ := (Spec.applies_iff hf).mp happ
  obtain ⟨hg, hn⟩ := and_e (Cond.before_iff.mp (show (Jvm.Cond.and given_1 narrow_1).before args s = true from hpre))
  obtain ⟨h1, k0⟩ := and_e hg
  obtain ⟨g0, k1⟩ := and_e k0
  obtain ⟨g1, k2⟩ := and_e k1
  obtain ⟨w0, w1, w2, rfl⟩ : ∃ w0 w1 w2 : Value, args = #[w0, w1, w2] := by
    have hs : args.size = 3 := by simpa [Cond.value, given_1] using h1
    obtain ⟨L⟩ := args
    match L, hs with
    | [w0, w1, w2], _ => exact ⟨w0, w1, w2, rfl⟩
  have hw := fun d (hd : d ∈ tables_1) => atoms_spec (ws := Jvm.Cond.code x code maxLocals ret :: tables_1) hat d (List.mem_cons_of_mem _ hd)
  obtain ⟨hsets, hown0⟩ := atoms_of _ (rest_1_c_eq ▸ (show rest_1_c.before _ s = true from hrest))
  have hfit : Fit s := fun {y c} hc i hi => by
    obtain ⟨ha, rfl⟩ := Array.getElem?_eq_some_iff.mp hc
    have q := List.all_eq_true.mp ((Array.all_eq_true_iff_forall_mem.mp hF) _ (Array.getElem_mem ha)) i (List.mem_range.mpr hi)
    simpa [Array.getElem?_eq_getElem hi] using q
  obtain ⟨i0, q0⟩ := is_v g0
  obtain rfl : w0 = (.int i0) := Option.some.inj q0
  obtain ⟨i1, q1⟩ := is_v g1
  obtain rfl : w1 = (.int i1) := Option.some.inj q1
  obtain ⟨i2, q2⟩ := is_v k2
  obtain rfl : w2 = (.int i2) := Option.some.inj q2
  have n5 := not_v (Cond.before_iff.mp (hsets _ (List.mem_of_getElem? (i := 2) rfl)))
  obtain ⟨zs, ez⟩ := is_v (Cond.before_iff.mp (hsets _ (List.mem_of_getElem? (i := 1) rfl)))
  have Sa : Sta s s.heap "java/lang/String" "COMPACT_STRINGS" "Z" (.int zs) := Sta.start ez (Or.inl (hsets _ (List.mem_of_getElem? (i := 0) rfl)))
  have hz : ¬ (zs = (0 : Int32)) := gotF (Cond.eq_ints ez (Term.int_eval (0))) n5
  obtain ⟨xSCHEMA, hn⟩ := and_e hn
  obtain ⟨xMD5, hn⟩ := and_e hn
  obtain ⟨xDOCUMENT, hn⟩ := and_e hn
  obtain ⟨xMISSING, hn⟩ := and_e hn
  obtain ⟨oMD5, hn⟩ := and_e hn
  obtain ⟨oMISSING, hn⟩ := and_e hn
  obtain ⟨oSCHEMA, hn⟩ := and_e hn
  have oDOCUMENT := hn
  obtain ⟨k0, ek0⟩ := exa_v xSCHEMA
  have T0 : Sta s s.heap "com/example/vestline/vestline/ocf/Finding$Kind" "SCHEMA" "Lcom/example/vestline/vestline/ocf/Finding$Kind;" (.ref k0) := Sta.start ek0 (Or.inr ⟨(hw _ (List.mem_of_getElem? (i := 73) rfl)), (hw _ (List.mem_of_getElem? (i := 74) rfl))⟩)
  have O0 : Fld s s.heap k0 "java/lang/Enum" "ordinal" "I" (.int (0 : Int32)) := Fld.start ((fld_at ek0).symm.trans (Cond.eq_int (Cond.before_iff.mpr oSCHEMA) rfl))
  obtain ⟨k1, ek1⟩ := exa_v xMD5
  have T1 : Sta s s.heap "com/example/vestline/vestline/ocf/Finding$Kind" "MD5" "Lcom/example/vestline/vestline/ocf/Finding$Kind;" (.ref k1) := Sta.start ek1 (Or.inr ⟨(hw _ (List.mem_of_getElem? (i := 73) rfl)), (hw _ (List.mem_of_getElem? (i := 108) rfl))⟩)
  have O1 : Fld s s.heap k1 "java/lang/Enum" "ordinal" "I" (.int (1 : Int32)) := Fld.start ((fld_at ek1).symm.trans (Cond.eq_int (Cond.before_iff.mpr oMD5) rfl))
  obtain ⟨k2, ek2⟩ := exa_v xMISSING
  have T2 : Sta s s.heap "com/example/vestline/vestline/ocf/Finding$Kind" "MISSING" "Lcom/example/vestline/vestline/ocf/Finding$Kind;" (.ref k2) := Sta.start ek2 (Or.inr ⟨(hw _ (List.mem_of_getElem? (i := 73) rfl)), (hw _ (List.mem_of_getElem? (i := 125) rfl))⟩)
  have O2 : Fld s s.heap k2 "java/lang/Enum" "ordinal" "I" (.int (2 : Int32)) := Fld.start ((fld_at ek2).symm.trans (Cond.eq_int (Cond.before_iff.mpr oMISSING) rfl))
  obtain ⟨k3, ek3⟩ := exa_v xDOCUMENT
  have T3 : Sta s s.heap "com/example/vestline/vestline/ocf/Finding$Kind" "DOCUMENT" "Lcom/example/vestline/vestline/ocf/Finding$Kind;" (.ref k3) := Sta.start ek3 (Or.inr ⟨(hw _ (List.mem_of_getElem? (i := 73) rfl)), (hw _ (List.mem_of_getElem? (i := 123) rfl))⟩)
  have O3 : Fld s s.heap k3 "java/lang/Enum" "ordinal" "I" (.int (3 : Int32)) := Fld.start ((fld_at ek3).symm.trans (Cond.eq_int (Cond.before_iff.mpr oDOCUMENT) rfl))
  have wa : (Jvm.Cond.arrayClass .byte).before _ s = true := hw _ (by decide +kernel)
  have wi : (Jvm.Cond.instantiable "java/lang/String" 4).before _ s = true := hw _ (by decide +kernel)
  have HL : Lits s consts_1 [] s.vm s.heap := Lits.start (a0 := _) (fun q hq => hcalls.1 q hq) (fun q hq => by
    simp only [consts_1, List.mem_cons, List.not_mem_nil, or_false] at hq
    rcases hq with rfl | rfl | rfl
    · exact ⟨"file", (hw _ (List.mem_of_getElem? (i := 39) rfl)), by decide⟩
    · exact ⟨"", (hw _ (List.mem_of_getElem? (i := 86) rfl)), by decide⟩
    · exact ⟨"", (hw _ (List.mem_of_getElem? (i := 68) rfl)), by decide⟩) (hsets _ (List.mem_of_getElem? (i := 2) rfl)) wa wi
  obtain ⟨n, o, h1, h2, h3, _, L, rfl, ⟨rfl, -, N⟩, hq⟩ := rm0 l s _ hw tables_1 [] s.heap.size s.heap (Nat.le_refl _) i0 i1 i2 zs Sa hz k0 k1 k2 k3 T0 T1 T2 T3 (Fld.ne O0 O1 (by decide)) (Fld.ne O0 O2 (by decide)) (Fld.ne O0 O3 (by decide)) (Fld.ne O1 O2 (by decide)) (Fld.ne O1 O3 (by decide)) (Fld.ne O2 O3 (by decide)) p e ha hc hk s m _ below hf ((Spec.applies_iff_loose hf).mp happ).1 ⟨rfl, State.Warmed39.refl s, rfl, HL⟩ trivial
  refine ⟨n, _, h1, h2, h3, hpost _ _ _ _ _ _ ⟨Cond.after_iff.mpr rfl, Cond.after_iff.mpr (eq_i res_at (Term.int_eval (1)) rfl), trivial⟩ ⟨hq.1, hq.2.1, hq.2.2.1, (hq.2.2.2.sift fun y hy => Or.inr (N y hy)).mono (by decide) (by decide)⟩⟩
theorem main_1_1 : Claimed_1_1 := comes_1 fun _ _ _ _ _ _ h hF => ⟨h.1, hF⟩
theorem main_1_2 : Claimed_1_2 := comes_1 fun _ _ _ _ _ _ h hF => ⟨h.2.1, hF⟩
end Jvm.Pilot.@@N@@
namespace Jvm.Pilot.@@N@@
open Jvm Jvm.ClassFile Sem Op Lib Jvm.Free Jvm.Stand Jvm.Pilot.@@N@@.Jvm.D
/-! MADE BY PROGRAM (witnessworld.py) out of the Statement's table words and the real class files: 23 classes; the members and pool entries that the words name. The judged class is class 1, her method 7. -/
namespace start1
open Jvm.ClassFile
def u (s : String) : CpInfo := .utf8 (stringToUtf16 s)
/-- a pool by its gaps: so many unusable entries, then the entry; so many at the end -/
def gap : Nat → List CpInfo → List CpInfo
  | 0, r => r
  | n + 1, r => .unusable :: gap n r
def poolList (es : List (Nat × CpInfo)) (last : Nat) : List CpInfo := es.foldr (fun e r => gap e.1 (e.2 :: r)) (gap last [])
def pool (es : List (Nat × CpInfo)) (last : Nat) : Array CpInfo := ⟨poolList es last⟩
def fileOf (pool : Array CpInfo) (this : Nat) (attrs : Array Attribute := #[]) (ms : Array MethodInfo := #[]) (fl : Nat := 33) (sup : Nat := 0) (ifs : Array Nat := #[]) (fds : Array FieldInfo := #[]) : ClassFile where
  minorVersion := 0
  majorVersion := 65
  constantPool := pool
  accessFlags := fl
  thisClass := this
  superClass := sup
  interfaces := ifs
  fields := fds
  methods := ms
  attributes := attrs
def plain (name : String) (sup : Option ClassId) : Class where
  name := name
  kind := .ordinary
  loader := none
  accessFlags := 33
  super := sup
  interfaces := #[]
  cf := none
  fields := #[]
  methods := #[]
  instanceTypes := #[]
  staticTypes := #[]
  resolved := #[]
  callSites := []
  init := .initialized
  statics := none
  mirror := none

def pool0 : Array CpInfo := pool [(5, u "<init>"), (0, u "()V"), (1, .class_ 10), (1, u "java/lang/Object")] 113

def k0c0 : Code := { maxStack := 0, maxLocals := 1, code := object_method_1_code, exceptionTable := #[], attributes := #[] }
def k0m0 : Method := { name := "<init>", desc := "()V", sig := { parameters := [], returnType := none }, accessFlags := 1, code := some k0c0 }
/-- java/lang/Object -/
def k0 : Class := { plain "java/lang/Object" none with
  accessFlags := 33
  interfaces := #[]
  cf := some (fileOf pool0 8 #[] #[{ accessFlags := 1, nameIndex := 5, descriptorIndex := 6, attributes := #[] }] 33 0 #[] #[])
  fields := #[]
  methods := #[k0m0]
  instanceTypes := #[]
  staticTypes := #[]
  resolved := Array.replicate 124 none
  statics := none }

def pool1 : Array CpInfo := pool [(2, .class_ 4), (1, u "java/lang/Object"), (0, u "<init>"), (0, u "()V"), (0, .class_ 8), (0, u "java/lang/String"), (0, .methodref 7 10), (0, .nameAndType 5 11), (0, u "([C)V"), (0, .methodref 7 13), (0, .nameAndType 14 15), (0, u "valueOf"), (0, u "(C)Ljava/lang/String;"), (0, .fieldref 17 18), (0, .class_ 19), (0, .nameAndType 20 21), (0, u "com/example/vestline/vestline/ocf/Finding$Kind"), (0, u "SCHEMA"), (0, u "Lcom/example/vestline/vestline/ocf/Finding$Kind;"), (0, .fieldref 17 23), (0, .nameAndType 24 21), (0, u "MD5"), (0, .fieldref 17 26), (0, .nameAndType 27 21), (0, u "MISSING"), (0, .fieldref 17 29), (0, .nameAndType 30 21), (0, u "DOCUMENT"), (0, .methodref 32 33), (0, .class_ 34), (0, .nameAndType 35 36), (0, u "com/example/vestline/vestline/ocf/FindingEqualsPinLaw"), (0, u "itemLen"), (0, u "(I)I"), (0, .methodref 32 38), (0, .nameAndType 39 40), (0, u "str"), (0, u "(II)Ljava/lang/String;"), (0, .class_ 42), (0, u "com/example/vestline/vestline/input/Location"), (0, .methodref 41 44), (0, .nameAndType 5 45), (0, u "(Ljava/lang/String;Ljava/lang/String;)V"), (0, .class_ 47), (0, u "com/example/vestline/vestline/ocf/Finding"), (0, .methodref 32 49), (0, .nameAndType 50 51), (0, u "kind"), (0, u "(I)Lcom/example/vestline/vestline/ocf/Finding$Kind;"), (0, .methodref 46 53), (0, .nameAndType 5 54), (0, u "(Ljava/lang/String;Lcom/example/vestline/vestline/input/Location;Lcom/example/vestline/vestline/ocf/Finding$Kind;Ljava/lang/String;)V"), (0, .integer 4294443519), (0, .integer 523776), (0, .integer 4293394431), (0, .integer 1572864), (0, .integer 3223322623), (0, .integer 1071644672), (0, .methodref 32 62), (0, .nameAndType 63 64), (0, u "location"), (0, u "(II)Lcom/example/vestline/vestline/input/Location;"), (0, .methodref 32 66), (0, .nameAndType 67 68), (0, u "finding"), (0, u "(ILcom/example/vestline/vestline/input/Location;)Lcom/example/vestline/vestline/ocf/Finding;"), (0, .methodref 46 70), (0, .nameAndType 71 72), (0, u "equals"), (0, u "(Ljava/lang/Object;)Z"), (0, .methodref 32 74), (0, .nameAndType 75 76), (0, u "sameStr"), (0, u "(IIII)Z"), (3, u "law"), (0, u "(III)Z")] 4

def k1m0 : Method := { name := "<init>", desc := "()V", sig := { parameters := [], returnType := none }, accessFlags := 1, code := none }
def k1c1 : Code := { maxStack := 3, maxLocals := 2, code := method_2_code, exceptionTable := #[], attributes := #[] }
def k1m1 : Method := { name := "str", desc := "(II)Ljava/lang/String;", sig := { parameters := [.int, .int], returnType := some (.object "java/lang/String") }, accessFlags := 10, code := some k1c1 }
def k1c2 : Code := { maxStack := 2, maxLocals := 1, code := method_3_code, exceptionTable := #[], attributes := #[] }
def k1m2 : Method := { name := "itemLen", desc := "(I)I", sig := { parameters := [.int], returnType := some .int }, accessFlags := 10, code := some k1c2 }
def k1c3 : Code := { maxStack := 2, maxLocals := 4, code := method_4_code, exceptionTable := #[], attributes := #[] }
def k1m3 : Method := { name := "sameStr", desc := "(IIII)Z", sig := { parameters := [.int, .int, .int, .int], returnType := some .boolean }, accessFlags := 10, code := some k1c3 }
def k1c4 : Code := { maxStack := 2, maxLocals := 1, code := method_5_code, exceptionTable := #[], attributes := #[] }
def k1m4 : Method := { name := "kind", desc := "(I)Lcom/example/vestline/vestline/ocf/Finding$Kind;", sig := { parameters := [.int], returnType := some (.object "com/example/vestline/vestline/ocf/Finding$Kind") }, accessFlags := 10, code := some k1c4 }
def k1c5 : Code := { maxStack := 4, maxLocals := 3, code := method_6_code, exceptionTable := #[], attributes := #[] }
def k1m5 : Method := { name := "location", desc := "(II)Lcom/example/vestline/vestline/input/Location;", sig := { parameters := [.int, .int], returnType := some (.object "com/example/vestline/vestline/input/Location") }, accessFlags := 10, code := some k1c5 }
def k1c6 : Code := { maxStack := 8, maxLocals := 2, code := method_7_code, exceptionTable := #[], attributes := #[] }
def k1m6 : Method := { name := "finding", desc := "(ILcom/example/vestline/vestline/input/Location;)Lcom/example/vestline/vestline/ocf/Finding;", sig := { parameters := [.int, (.object "com/example/vestline/vestline/input/Location")], returnType := some (.object "com/example/vestline/vestline/ocf/Finding") }, accessFlags := 10, code := some k1c6 }
def k1c7 : Code := { maxStack := 5, maxLocals := 10, code := code, exceptionTable := #[], attributes := #[] }
def k1m7 : Method := { name := "law", desc := "(III)Z", sig := { parameters := [.int, .int, .int], returnType := some .boolean }, accessFlags := 9, code := some k1c7 }
/-- com/example/vestline/vestline/ocf/FindingEqualsPinLaw -/
def k1 : Class := { plain "com/example/vestline/vestline/ocf/FindingEqualsPinLaw" (some 0) with
  accessFlags := 49
  interfaces := #[]
  cf := some (fileOf pool1 32 #[] #[{ accessFlags := 1, nameIndex := 5, descriptorIndex := 6, attributes := #[] }, { accessFlags := 10, nameIndex := 39, descriptorIndex := 40, attributes := #[] }, { accessFlags := 10, nameIndex := 35, descriptorIndex := 36, attributes := #[] }, { accessFlags := 10, nameIndex := 75, descriptorIndex := 76, attributes := #[] }, { accessFlags := 10, nameIndex := 50, descriptorIndex := 51, attributes := #[] }, { accessFlags := 10, nameIndex := 63, descriptorIndex := 64, attributes := #[] }, { accessFlags := 10, nameIndex := 67, descriptorIndex := 68, attributes := #[] }, { accessFlags := 9, nameIndex := 80, descriptorIndex := 81, attributes := #[] }] 49 2 #[] #[])
  fields := #[]
  methods := #[k1m0, k1m1, k1m2, k1m3, k1m4, k1m5, k1m6, k1m7]
  instanceTypes := #[]
  staticTypes := #[]
  resolved := Array.replicate 86 none
  statics := none }

def pool2 : Array CpInfo := pool [(1, .methodref 2 3), (0, .class_ 4), (0, .nameAndType 5 6), (0, u "java/lang/Object"), (0, u "<init>"), (0, u "()V"), (0, .string 8), (0, u "file"), (0, .methodref 10 11), (0, .class_ 12), (0, .nameAndType 13 14), (0, u "java/util/Objects"), (0, u "requireNonNull"), (0, u "(Ljava/lang/Object;Ljava/lang/String;)Ljava/lang/Object;"), (0, .class_ 16), (0, u "java/lang/String"), (0, .fieldref 18 19), (0, .class_ 20), (0, .nameAndType 8 21), (0, u "com/example/vestline/vestline/input/Location"), (0, u "Ljava/lang/String;"), (0, .fieldref 18 23), (0, .nameAndType 24 21), (0, u "item"), (33, u "()Ljava/lang/String;"), (12, u "(Ljava/lang/String;Ljava/lang/String;)V")] 29

def k2c0 : Code := { maxStack := 3, maxLocals := 3, code := prog_17_method_1_code, exceptionTable := #[], attributes := #[] }
def k2m0 : Method := { name := "<init>", desc := "(Ljava/lang/String;Ljava/lang/String;)V", sig := { parameters := [(.object "java/lang/String"), (.object "java/lang/String")], returnType := none }, accessFlags := 1, code := some k2c0 }
def k2c1 : Code := { maxStack := 1, maxLocals := 1, code := prog_17_method_3_code, exceptionTable := #[], attributes := #[] }
def k2m1 : Method := { name := "item", desc := "()Ljava/lang/String;", sig := { parameters := [], returnType := some (.object "java/lang/String") }, accessFlags := 1, code := some k2c1 }
/-- com/example/vestline/vestline/input/Location -/
def k2 : Class := { plain "com/example/vestline/vestline/input/Location" (some 0) with
  accessFlags := 33
  interfaces := #[]
  cf := some (fileOf pool2 18 #[] #[{ accessFlags := 1, nameIndex := 5, descriptorIndex := 71, attributes := #[] }, { accessFlags := 1, nameIndex := 24, descriptorIndex := 58, attributes := #[] }] 33 2 #[] #[{ accessFlags := 18, nameIndex := 8, descriptorIndex := 21, attributes := #[] }, { accessFlags := 18, nameIndex := 24, descriptorIndex := 21, attributes := #[] }])
  fields := #[{ name := "file", type := (.object "java/lang/String"), accessFlags := 18, slot := 0, constantValue := 0 }, { name := "item", type := (.object "java/lang/String"), accessFlags := 18, slot := 1, constantValue := 0 }]
  methods := #[k2m0, k2m1]
  instanceTypes := #[(.object "java/lang/String"), (.object "java/lang/String")]
  staticTypes := #[]
  resolved := Array.replicate 101 none
  statics := none }

def pool3 : Array CpInfo := pool [(1, .class_ 2), (0, u "java/io/Serializable"), (0, .class_ 4), (0, u "java/lang/Object")] 2

/-- java/io/Serializable -/
def k3 : Class := { plain "java/io/Serializable" (some 0) with
  accessFlags := 1537
  interfaces := #[]
  cf := some (fileOf pool3 1 #[] #[] 1537 3 #[] #[])
  fields := #[]
  methods := #[]
  instanceTypes := #[]
  staticTypes := #[]
  resolved := Array.replicate 7 none
  statics := none }

def pool4 : Array CpInfo := pool [(1, .class_ 2), (0, u "java/lang/Comparable"), (0, .class_ 4), (0, u "java/lang/Object")] 7

/-- java/lang/Comparable -/
def k4 : Class := { plain "java/lang/Comparable" (some 0) with
  accessFlags := 1537
  interfaces := #[]
  cf := some (fileOf pool4 1 #[] #[] 1537 3 #[] #[])
  fields := #[]
  methods := #[]
  instanceTypes := #[]
  staticTypes := #[]
  resolved := Array.replicate 12 none
  statics := none }

def pool5 : Array CpInfo := pool [(2, .class_ 4), (1, u "java/lang/CharSequence"), (42, .class_ 48), (0, u "java/lang/CharSequence$1CodePointIterator"), (10, .class_ 60), (0, u "java/lang/CharSequence$1CharIterator"), (5, .class_ 67), (0, u "java/lang/Object")] 63

/-- java/lang/CharSequence -/
def k5 : Class := { plain "java/lang/CharSequence" (some 0) with
  accessFlags := 1537
  interfaces := #[]
  cf := some (fileOf pool5 2 #[.nestMembers #[47, 59]] #[] 1537 66 #[] #[])
  fields := #[]
  methods := #[]
  instanceTypes := #[]
  staticTypes := #[]
  resolved := Array.replicate 131 none
  statics := none }

def pool6 : Array CpInfo := pool [(1, .class_ 2), (0, u "java/lang/constant/Constable"), (0, .class_ 4), (0, u "java/lang/Object")] 6

/-- java/lang/constant/Constable -/
def k6 : Class := { plain "java/lang/constant/Constable" (some 0) with
  accessFlags := 1537
  interfaces := #[]
  cf := some (fileOf pool6 1 #[] #[] 1537 3 #[] #[])
  fields := #[]
  methods := #[]
  instanceTypes := #[]
  staticTypes := #[]
  resolved := Array.replicate 11 none
  statics := none }

def pool7 : Array CpInfo := pool [(1, .class_ 2), (0, u "java/lang/constant/ConstantDesc"), (0, .class_ 4), (0, u "java/lang/Object")] 32

/-- java/lang/constant/ConstantDesc -/
def k7 : Class := { plain "java/lang/constant/ConstantDesc" (some 0) with
  accessFlags := 1537
  interfaces := #[]
  cf := some (fileOf pool7 1 #[] #[] 1537 3 #[] #[])
  fields := #[]
  methods := #[]
  instanceTypes := #[]
  staticTypes := #[]
  resolved := Array.replicate 37 none
  statics := none }

def pool8 : Array CpInfo := pool [(1, .methodref 2 3), (0, .class_ 4), (0, .nameAndType 5 6), (0, u "java/lang/Object"), (0, u "<init>"), (0, u "()V"), (0, .string 8), (0, u ""), (0, .fieldref 10 11), (0, .class_ 12), (0, .nameAndType 13 14), (0, u "java/lang/String"), (0, u "value"), (0, u "[B"), (0, .fieldref 10 16), (0, .nameAndType 17 18), (0, u "coder"), (0, u "B"), (2, u "hash"), (0, u "I"), (2, u "hashIsZero"), (0, u "Z"), (0, .methodref 10 28), (0, .nameAndType 5 29), (0, u "([CIILjava/lang/Void;)V"), (8, .fieldref 10 39), (0, .nameAndType 40 26), (0, u "COMPACT_STRINGS"), (12, u "toBytes"), (53, .class_ 109), (1, u "java/lang/StringLatin1"), (99, .methodref 10 210), (0, .nameAndType 5 211), (0, u "([BB)V"), (157, u "(C)Z"), (171, .methodref 107 542), (0, .nameAndType 543 544), (0, u "equals"), (0, u "([B[B)Z"), (28, u "(Ljava/lang/Object;)Z"), (1, .class_ 576), (0, u "java/lang/CharSequence"), (22, u "CASE_INSENSITIVE_ORDER"), (0, u "Ljava/util/Comparator;"), (181, u "valueOf"), (0, u "(C)Ljava/lang/String;"), (226, u "([C)V"), (4, .methodref 107 1016), (0, .nameAndType 1017 369), (0, u "canEncode"), (0, .methodref 107 1019), (0, .nameAndType 53 1020), (0, u "(C)[B"), (80, u "serialPersistentFields"), (0, u "[Ljava/io/ObjectStreamField;"), (0, .class_ 1104), (0, u "java/lang/String$CaseInsensitiveComparator"), (1, .class_ 1107), (0, u "java/io/Serializable"), (0, .class_ 1109), (0, u "java/lang/Comparable"), (0, .class_ 1111), (0, u "java/lang/constant/Constable"), (0, .class_ 1113), (0, u "java/lang/constant/ConstantDesc"), (2, u "serialVersionUID"), (0, u "J"), (3, u "REPL"), (0, u "C"), (2, u "LATIN1"), (1, u "UTF16")] 323

def k8m0 : Method := { name := "<init>", desc := "()V", sig := { parameters := [], returnType := none }, accessFlags := 1, code := none }
def k8c1 : Code := { maxStack := 5, maxLocals := 2, code := jdk_42_method_3_code, exceptionTable := #[], attributes := #[] }
def k8m1 : Method := { name := "<init>", desc := "([C)V", sig := { parameters := [(.array .char)], returnType := none }, accessFlags := 1, code := some k8c1 }
def k8c2 : Code := { maxStack := 2, maxLocals := 3, code := jdk_42_method_66_code, exceptionTable := #[], attributes := #[] }
def k8m2 : Method := { name := "equals", desc := "(Ljava/lang/Object;)Z", sig := { parameters := [(.object "java/lang/Object")], returnType := some .boolean }, accessFlags := 1, code := some k8c2 }
def k8c3 : Code := { maxStack := 4, maxLocals := 1, code := jdk_42_method_139_code, exceptionTable := #[], attributes := #[] }
def k8m3 : Method := { name := "valueOf", desc := "(C)Ljava/lang/String;", sig := { parameters := [.char], returnType := some (.object "java/lang/String") }, accessFlags := 9, code := some k8c3 }
def k8c4 : Code := { maxStack := 4, maxLocals := 6, code := jdk_42_method_149_code, exceptionTable := #[], attributes := #[] }
def k8m4 : Method := { name := "<init>", desc := "([CIILjava/lang/Void;)V", sig := { parameters := [(.array .char), .int, .int, (.object "java/lang/Void")], returnType := none }, accessFlags := 2, code := some k8c4 }
def k8c5 : Code := { maxStack := 2, maxLocals := 3, code := jdk_42_method_151_code, exceptionTable := #[], attributes := #[] }
def k8m5 : Method := { name := "<init>", desc := "([BB)V", sig := { parameters := [(.array .byte), .byte], returnType := none }, accessFlags := 0, code := some k8c5 }
/-- java/lang/String -/
def k8 : Class := { plain "java/lang/String" (some 0) with
  accessFlags := 49
  interfaces := #[3, 4, 5, 6, 7]
  cf := some (fileOf pool8 10 #[.nestMembers #[1103]] #[{ accessFlags := 1, nameIndex := 5, descriptorIndex := 6, attributes := #[] }, { accessFlags := 1, nameIndex := 5, descriptorIndex := 1010, attributes := #[] }, { accessFlags := 1, nameIndex := 543, descriptorIndex := 573, attributes := #[] }, { accessFlags := 9, nameIndex := 782, descriptorIndex := 783, attributes := #[] }, { accessFlags := 2, nameIndex := 5, descriptorIndex := 29, attributes := #[] }, { accessFlags := 0, nameIndex := 5, descriptorIndex := 211, attributes := #[] }] 49 2 #[1106, 1108, 575, 1110, 1112] #[{ accessFlags := 18, nameIndex := 13, descriptorIndex := 14, attributes := #[] }, { accessFlags := 18, nameIndex := 17, descriptorIndex := 18, attributes := #[] }, { accessFlags := 2, nameIndex := 21, descriptorIndex := 22, attributes := #[] }, { accessFlags := 2, nameIndex := 25, descriptorIndex := 26, attributes := #[] }, { accessFlags := 26, nameIndex := 1116, descriptorIndex := 1117, attributes := #[] }, { accessFlags := 24, nameIndex := 40, descriptorIndex := 26, attributes := #[] }, { accessFlags := 26, nameIndex := 1101, descriptorIndex := 1102, attributes := #[] }, { accessFlags := 26, nameIndex := 1121, descriptorIndex := 1122, attributes := #[] }, { accessFlags := 25, nameIndex := 599, descriptorIndex := 600, attributes := #[] }, { accessFlags := 24, nameIndex := 1125, descriptorIndex := 18, attributes := #[] }, { accessFlags := 24, nameIndex := 1127, descriptorIndex := 18, attributes := #[] }])
  fields := #[{ name := "value", type := (.array .byte), accessFlags := 18, slot := 0, constantValue := 0 }, { name := "coder", type := .byte, accessFlags := 18, slot := 1, constantValue := 0 }, { name := "hash", type := .int, accessFlags := 2, slot := 2, constantValue := 0 }, { name := "hashIsZero", type := .boolean, accessFlags := 2, slot := 3, constantValue := 0 }, { name := "serialVersionUID", type := .long, accessFlags := 26, slot := 0, constantValue := 0 }, { name := "COMPACT_STRINGS", type := .boolean, accessFlags := 24, slot := 1, constantValue := 0 }, { name := "serialPersistentFields", type := (.array (.object "java/io/ObjectStreamField")), accessFlags := 26, slot := 2, constantValue := 0 }, { name := "REPL", type := .char, accessFlags := 26, slot := 3, constantValue := 0 }, { name := "CASE_INSENSITIVE_ORDER", type := (.object "java/util/Comparator"), accessFlags := 25, slot := 4, constantValue := 0 }, { name := "LATIN1", type := .byte, accessFlags := 24, slot := 5, constantValue := 0 }, { name := "UTF16", type := .byte, accessFlags := 24, slot := 6, constantValue := 0 }]
  methods := #[k8m0, k8m1, k8m2, k8m3, k8m4, k8m5]
  instanceTypes := #[(.array .byte), .byte, .int, .boolean]
  staticTypes := #[.long, .boolean, (.array (.object "java/io/ObjectStreamField")), .char, (.object "java/util/Comparator"), .byte, .byte]
  resolved := Array.replicate 1451 none
  statics := some 0 }

def pool9 : Array CpInfo := pool [(4, .class_ 6), (1, u "java/lang/Object"), (0, u "<init>"), (0, u "()V"), (5, .class_ 16), (1, u "java/lang/StringLatin1"), (73, u "canEncode"), (14, u "(C)Z"), (15, u "$assertionsDisabled"), (0, u "Z"), (98, .class_ 223), (1, u "java/lang/StringLatin1$LinesSpliterator"), (57, u "equals"), (0, u "([B[B)Z"), (97, u "toBytes"), (1, u "(C)[B"), (7, .class_ 391), (0, u "java/lang/StringLatin1$CharsSpliterator")] 3

def k9m0 : Method := { name := "<init>", desc := "()V", sig := { parameters := [], returnType := none }, accessFlags := 0, code := none }
def k9c1 : Code := { maxStack := 2, maxLocals := 1, code := jdk_43_method_3_code, exceptionTable := #[], attributes := #[] }
def k9m1 : Method := { name := "canEncode", desc := "(C)Z", sig := { parameters := [.char], returnType := some .boolean }, accessFlags := 9, code := some k9c1 }
def k9c2 : Code := { maxStack := 3, maxLocals := 3, code := jdk_43_method_13_code, exceptionTable := #[], attributes := #[] }
def k9m2 : Method := { name := "equals", desc := "([B[B)Z", sig := { parameters := [(.array .byte), (.array .byte)], returnType := some .boolean }, accessFlags := 9, code := some k9c2 }
def k9c3 : Code := { maxStack := 4, maxLocals := 1, code := jdk_43_method_46_code, exceptionTable := #[], attributes := #[] }
def k9m3 : Method := { name := "toBytes", desc := "(C)[B", sig := { parameters := [.char], returnType := some (.array .byte) }, accessFlags := 9, code := some k9c3 }
/-- java/lang/StringLatin1 -/
def k9 : Class := { plain "java/lang/StringLatin1" (some 0) with
  accessFlags := 48
  interfaces := #[]
  cf := some (fileOf pool9 14 #[.nestMembers #[390, 221]] #[{ accessFlags := 0, nameIndex := 7, descriptorIndex := 8, attributes := #[] }, { accessFlags := 9, nameIndex := 90, descriptorIndex := 105, attributes := #[] }, { accessFlags := 9, nameIndex := 281, descriptorIndex := 282, attributes := #[] }, { accessFlags := 9, nameIndex := 380, descriptorIndex := 382, attributes := #[] }] 48 4 #[] #[{ accessFlags := 4120, nameIndex := 121, descriptorIndex := 122, attributes := #[] }])
  fields := #[{ name := "$assertionsDisabled", type := .boolean, accessFlags := 4120, slot := 0, constantValue := 0 }]
  methods := #[k9m0, k9m1, k9m2, k9m3]
  instanceTypes := #[]
  staticTypes := #[.boolean]
  resolved := Array.replicate 395 none
  statics := none }

def pool10 : Array CpInfo := pool [(2, .class_ 4), (1, u "java/lang/Object"), (0, u "<init>"), (0, u "()V"), (35, .class_ 44), (1, u "java/util/Objects"), (0, u "requireNonNull"), (48, u "(Ljava/lang/Object;Ljava/lang/String;)Ljava/lang/Object;")] 89

def k10m0 : Method := { name := "<init>", desc := "()V", sig := { parameters := [], returnType := none }, accessFlags := 2, code := none }
def k10c1 : Code := { maxStack := 3, maxLocals := 2, code := jdk_31_method_11_code, exceptionTable := #[], attributes := #[] }
def k10m1 : Method := { name := "requireNonNull", desc := "(Ljava/lang/Object;Ljava/lang/String;)Ljava/lang/Object;", sig := { parameters := [(.object "java/lang/Object"), (.object "java/lang/String")], returnType := some (.object "java/lang/Object") }, accessFlags := 9, code := some k10c1 }
/-- java/util/Objects -/
def k10 : Class := { plain "java/util/Objects" (some 0) with
  accessFlags := 49
  interfaces := #[]
  cf := some (fileOf pool10 42 #[] #[{ accessFlags := 2, nameIndex := 5, descriptorIndex := 6, attributes := #[] }, { accessFlags := 9, nameIndex := 45, descriptorIndex := 94, attributes := #[] }] 49 2 #[] #[])
  fields := #[]
  methods := #[k10m0, k10m1]
  instanceTypes := #[]
  staticTypes := #[]
  resolved := Array.replicate 184 none
  statics := none }

def pool11 : Array CpInfo := pool [(1, .methodref 2 3), (0, .class_ 4), (0, .nameAndType 5 6), (0, u "java/lang/Object"), (0, u "<init>"), (0, u "()V"), (0, .fieldref 8 9), (0, .class_ 10), (0, .nameAndType 11 12), (0, u "com/example/vestline/vestline/ocf/Finding"), (0, u "file"), (0, u "Ljava/lang/String;"), (0, .methodref 14 15), (0, .class_ 16), (0, .nameAndType 17 18), (0, u "com/example/vestline/vestline/input/Location"), (0, u "item"), (0, u "()Ljava/lang/String;"), (0, .string 20), (0, u ""), (0, .fieldref 8 22), (0, .nameAndType 17 12), (0, .fieldref 8 24), (0, .nameAndType 25 26), (0, u "kind"), (0, u "Lcom/example/vestline/vestline/ocf/Finding$Kind;"), (0, .fieldref 8 28), (0, .nameAndType 29 12), (0, u "detail"), (0, .fieldref 8 31), (0, .nameAndType 32 33), (0, u "location"), (0, u "Lcom/example/vestline/vestline/input/Location;"), (0, .methodref 35 36), (0, .class_ 37), (0, .nameAndType 38 39), (0, u "java/lang/String"), (0, u "equals"), (0, u "(Ljava/lang/Object;)Z"), (11, .class_ 53), (1, u "com/example/vestline/vestline/ocf/Finding$Kind"), (5, u "(Ljava/lang/String;Lcom/example/vestline/vestline/input/Location;Lcom/example/vestline/vestline/ocf/Finding$Kind;Ljava/lang/String;)V")] 13

def k11c0 : Code := { maxStack := 2, maxLocals := 5, code := prog_22_method_1_code, exceptionTable := #[], attributes := #[] }
def k11m0 : Method := { name := "<init>", desc := "(Ljava/lang/String;Lcom/example/vestline/vestline/input/Location;Lcom/example/vestline/vestline/ocf/Finding$Kind;Ljava/lang/String;)V", sig := { parameters := [(.object "java/lang/String"), (.object "com/example/vestline/vestline/input/Location"), (.object "com/example/vestline/vestline/ocf/Finding$Kind"), (.object "java/lang/String")], returnType := none }, accessFlags := 0, code := some k11c0 }
def k11c1 : Code := { maxStack := 2, maxLocals := 3, code := prog_22_method_7_code, exceptionTable := #[], attributes := #[] }
def k11m1 : Method := { name := "equals", desc := "(Ljava/lang/Object;)Z", sig := { parameters := [(.object "java/lang/Object")], returnType := some .boolean }, accessFlags := 1, code := some k11c1 }
/-- com/example/vestline/vestline/ocf/Finding -/
def k11 : Class := { plain "com/example/vestline/vestline/ocf/Finding" (some 0) with
  accessFlags := 33
  interfaces := #[]
  cf := some (fileOf pool11 8 #[.nestMembers #[51]] #[{ accessFlags := 0, nameIndex := 5, descriptorIndex := 59, attributes := #[] }, { accessFlags := 1, nameIndex := 38, descriptorIndex := 39, attributes := #[] }] 33 2 #[] #[{ accessFlags := 18, nameIndex := 11, descriptorIndex := 12, attributes := #[] }, { accessFlags := 18, nameIndex := 17, descriptorIndex := 12, attributes := #[] }, { accessFlags := 18, nameIndex := 25, descriptorIndex := 26, attributes := #[] }, { accessFlags := 18, nameIndex := 29, descriptorIndex := 12, attributes := #[] }, { accessFlags := 18, nameIndex := 32, descriptorIndex := 33, attributes := #[] }])
  fields := #[{ name := "file", type := (.object "java/lang/String"), accessFlags := 18, slot := 0, constantValue := 0 }, { name := "item", type := (.object "java/lang/String"), accessFlags := 18, slot := 1, constantValue := 0 }, { name := "kind", type := (.object "com/example/vestline/vestline/ocf/Finding$Kind"), accessFlags := 18, slot := 2, constantValue := 0 }, { name := "detail", type := (.object "java/lang/String"), accessFlags := 18, slot := 3, constantValue := 0 }, { name := "location", type := (.object "com/example/vestline/vestline/input/Location"), accessFlags := 18, slot := 4, constantValue := 0 }]
  methods := #[k11m0, k11m1]
  instanceTypes := #[(.object "java/lang/String"), (.object "java/lang/String"), (.object "com/example/vestline/vestline/ocf/Finding$Kind"), (.object "java/lang/String"), (.object "com/example/vestline/vestline/input/Location")]
  staticTypes := #[]
  resolved := Array.replicate 73 none
  statics := none }

def pool12 : Array CpInfo := pool [(2, .class_ 4), (1, u "java/lang/Enum"), (0, u "name"), (0, u "Ljava/lang/String;"), (2, u "ordinal"), (0, u "I"), (1, .class_ 14), (1, u "java/lang/Object"), (4, u "hash"), (86, .class_ 108), (1, u "java/lang/Enum$EnumDesc"), (2, .class_ 112), (0, u "java/lang/constant/Constable"), (0, .class_ 114), (0, u "java/lang/Comparable"), (0, .class_ 116), (0, u "java/io/Serializable")] 87

/-- java/lang/Enum -/
def k12 : Class := { plain "java/lang/Enum" (some 0) with
  accessFlags := 1057
  interfaces := #[6, 4, 3]
  cf := some (fileOf pool12 2 #[.nestMembers #[106]] #[] 1057 12 #[111, 113, 115] #[{ accessFlags := 18, nameIndex := 5, descriptorIndex := 6, attributes := #[] }, { accessFlags := 18, nameIndex := 9, descriptorIndex := 10, attributes := #[] }, { accessFlags := 2, nameIndex := 19, descriptorIndex := 10, attributes := #[] }])
  fields := #[{ name := "name", type := (.object "java/lang/String"), accessFlags := 18, slot := 0, constantValue := 0 }, { name := "ordinal", type := .int, accessFlags := 18, slot := 1, constantValue := 0 }, { name := "hash", type := .int, accessFlags := 2, slot := 2, constantValue := 0 }]
  methods := #[]
  instanceTypes := #[(.object "java/lang/String"), .int, .int]
  staticTypes := #[]
  resolved := Array.replicate 204 none
  statics := none }

def pool13 : Array CpInfo := pool [(1, .class_ 2), (0, u "com/example/vestline/vestline/ocf/Finding$Kind"), (2, u "SCHEMA"), (0, u "Lcom/example/vestline/vestline/ocf/Finding$Kind;"), (2, u "MD5"), (2, u "MISSING"), (2, u "DOCUMENT"), (2, u "$VALUES"), (0, u "[Lcom/example/vestline/vestline/ocf/Finding$Kind;"), (6, .class_ 28), (1, u "java/lang/Enum"), (27, .class_ 57), (0, u "com/example/vestline/vestline/ocf/Finding")] 2

/-- com/example/vestline/vestline/ocf/Finding$Kind -/
def k13 : Class := { plain "com/example/vestline/vestline/ocf/Finding$Kind" (some 12) with
  accessFlags := 16433
  interfaces := #[]
  cf := some (fileOf pool13 1 #[.nestHost 56] #[] 16433 26 #[] #[{ accessFlags := 16409, nameIndex := 5, descriptorIndex := 6, attributes := #[] }, { accessFlags := 16409, nameIndex := 9, descriptorIndex := 6, attributes := #[] }, { accessFlags := 16409, nameIndex := 12, descriptorIndex := 6, attributes := #[] }, { accessFlags := 16409, nameIndex := 15, descriptorIndex := 6, attributes := #[] }, { accessFlags := 4122, nameIndex := 18, descriptorIndex := 19, attributes := #[] }])
  fields := #[{ name := "SCHEMA", type := (.object "com/example/vestline/vestline/ocf/Finding$Kind"), accessFlags := 16409, slot := 0, constantValue := 0 }, { name := "MD5", type := (.object "com/example/vestline/vestline/ocf/Finding$Kind"), accessFlags := 16409, slot := 1, constantValue := 0 }, { name := "MISSING", type := (.object "com/example/vestline/vestline/ocf/Finding$Kind"), accessFlags := 16409, slot := 2, constantValue := 0 }, { name := "DOCUMENT", type := (.object "com/example/vestline/vestline/ocf/Finding$Kind"), accessFlags := 16409, slot := 3, constantValue := 0 }, { name := "$VALUES", type := (.array (.object "com/example/vestline/vestline/ocf/Finding$Kind")), accessFlags := 4122, slot := 4, constantValue := 0 }]
  methods := #[]
  instanceTypes := #[(.object "java/lang/String"), .int, .int]
  staticTypes := #[(.object "com/example/vestline/vestline/ocf/Finding$Kind"), (.object "com/example/vestline/vestline/ocf/Finding$Kind"), (.object "com/example/vestline/vestline/ocf/Finding$Kind"), (.object "com/example/vestline/vestline/ocf/Finding$Kind"), (.array (.object "com/example/vestline/vestline/ocf/Finding$Kind"))]
  resolved := Array.replicate 60 none
  statics := some 1 }

def pool14 : Array CpInfo := pool [(2, .class_ 4), (1, u "java/lang/Object"), (0, u "<init>"), (0, u "()V"), (17, .class_ 26), (1, u "jdk/internal/util/Preconditions"), (28, .class_ 56), (0, u "jdk/internal/util/Preconditions$4"), (57, .class_ 115), (0, u "jdk/internal/util/Preconditions$1"), (7, u "SIOOBE_FORMATTER"), (0, u "Ljava/util/function/BiFunction;"), (0, .class_ 126), (0, u "jdk/internal/util/Preconditions$2"), (3, u "AIOOBE_FORMATTER"), (0, .class_ 132), (0, u "jdk/internal/util/Preconditions$3"), (3, u "IOOBE_FORMATTER")] 57

def k14m0 : Method := { name := "<init>", desc := "()V", sig := { parameters := [], returnType := none }, accessFlags := 1, code := none }
/-- jdk/internal/util/Preconditions -/
def k14 : Class := { plain "jdk/internal/util/Preconditions" (some 0) with
  accessFlags := 33
  interfaces := #[]
  cf := some (fileOf pool14 24 #[.nestMembers #[55, 131, 125, 114]] #[{ accessFlags := 1, nameIndex := 5, descriptorIndex := 6, attributes := #[] }] 33 2 #[] #[{ accessFlags := 25, nameIndex := 123, descriptorIndex := 124, attributes := #[] }, { accessFlags := 25, nameIndex := 130, descriptorIndex := 124, attributes := #[] }, { accessFlags := 25, nameIndex := 136, descriptorIndex := 124, attributes := #[] }])
  fields := #[{ name := "SIOOBE_FORMATTER", type := (.object "java/util/function/BiFunction"), accessFlags := 25, slot := 0, constantValue := 0 }, { name := "AIOOBE_FORMATTER", type := (.object "java/util/function/BiFunction"), accessFlags := 25, slot := 1, constantValue := 0 }, { name := "IOOBE_FORMATTER", type := (.object "java/util/function/BiFunction"), accessFlags := 25, slot := 2, constantValue := 0 }]
  methods := #[k14m0]
  instanceTypes := #[]
  staticTypes := #[(.object "java/util/function/BiFunction"), (.object "java/util/function/BiFunction"), (.object "java/util/function/BiFunction")]
  resolved := Array.replicate 194 none
  statics := some 2 }

def pool15 : Array CpInfo := pool [(9, u "<init>"), (6, .class_ 18), (1, u "java/lang/Object"), (0, u "()V"), (1, .class_ 23), (1, u "jdk/internal/util/ArraysSupport"), (0, u "LOG2_ARRAY_LONG_INDEX_SCALE"), (0, u "I"), (2, u "U"), (0, u "Ljdk/internal/misc/Unsafe;"), (8, u "BIG_ENDIAN"), (0, u "Z"), (8, u "LOG2_BYTE_BIT_SIZE"), (4, u "LOG2_ARRAY_INT_INDEX_SCALE"), (54, u "JLA"), (0, u "Ljdk/internal/access/JavaLangAccess;"), (11, u "LOG2_ARRAY_BOOLEAN_INDEX_SCALE"), (9, u "LOG2_ARRAY_BYTE_INDEX_SCALE"), (5, u "LOG2_ARRAY_CHAR_INDEX_SCALE"), (5, u "LOG2_ARRAY_SHORT_INDEX_SCALE"), (18, u "LOG2_ARRAY_FLOAT_INDEX_SCALE"), (24, u "LOG2_ARRAY_DOUBLE_INDEX_SCALE"), (89, u "T_BOOLEAN"), (2, u "T_CHAR"), (1, u "T_FLOAT"), (1, u "T_DOUBLE"), (1, u "T_BYTE"), (1, u "T_SHORT"), (1, u "T_INT"), (1, u "T_LONG"), (1, u "SOFT_MAX_ARRAY_LENGTH")] 83

def k15m0 : Method := { name := "<init>", desc := "()V", sig := { parameters := [], returnType := none }, accessFlags := 2, code := none }
/-- jdk/internal/util/ArraysSupport -/
def k15 : Class := { plain "jdk/internal/util/ArraysSupport" (some 0) with
  accessFlags := 33
  interfaces := #[]
  cf := some (fileOf pool15 21 #[] #[{ accessFlags := 2, nameIndex := 9, descriptorIndex := 19, attributes := #[] }] 33 16 #[] #[{ accessFlags := 24, nameIndex := 28, descriptorIndex := 29, attributes := #[] }, { accessFlags := 26, nameIndex := 38, descriptorIndex := 39, attributes := #[] }, { accessFlags := 25, nameIndex := 121, descriptorIndex := 25, attributes := #[] }, { accessFlags := 25, nameIndex := 131, descriptorIndex := 25, attributes := #[] }, { accessFlags := 25, nameIndex := 137, descriptorIndex := 25, attributes := #[] }, { accessFlags := 25, nameIndex := 143, descriptorIndex := 25, attributes := #[] }, { accessFlags := 25, nameIndex := 53, descriptorIndex := 25, attributes := #[] }, { accessFlags := 25, nameIndex := 24, descriptorIndex := 25, attributes := #[] }, { accessFlags := 25, nameIndex := 162, descriptorIndex := 25, attributes := #[] }, { accessFlags := 25, nameIndex := 187, descriptorIndex := 25, attributes := #[] }, { accessFlags := 26, nameIndex := 48, descriptorIndex := 25, attributes := #[] }, { accessFlags := 25, nameIndex := 277, descriptorIndex := 25, attributes := #[] }, { accessFlags := 25, nameIndex := 280, descriptorIndex := 25, attributes := #[] }, { accessFlags := 25, nameIndex := 282, descriptorIndex := 25, attributes := #[] }, { accessFlags := 25, nameIndex := 284, descriptorIndex := 25, attributes := #[] }, { accessFlags := 25, nameIndex := 286, descriptorIndex := 25, attributes := #[] }, { accessFlags := 25, nameIndex := 288, descriptorIndex := 25, attributes := #[] }, { accessFlags := 25, nameIndex := 290, descriptorIndex := 25, attributes := #[] }, { accessFlags := 25, nameIndex := 292, descriptorIndex := 25, attributes := #[] }, { accessFlags := 26, nameIndex := 108, descriptorIndex := 109, attributes := #[] }, { accessFlags := 25, nameIndex := 294, descriptorIndex := 25, attributes := #[] }])
  fields := #[{ name := "U", type := (.object "jdk/internal/misc/Unsafe"), accessFlags := 24, slot := 0, constantValue := 0 }, { name := "BIG_ENDIAN", type := .boolean, accessFlags := 26, slot := 1, constantValue := 0 }, { name := "LOG2_ARRAY_BOOLEAN_INDEX_SCALE", type := .int, accessFlags := 25, slot := 2, constantValue := 0 }, { name := "LOG2_ARRAY_BYTE_INDEX_SCALE", type := .int, accessFlags := 25, slot := 3, constantValue := 0 }, { name := "LOG2_ARRAY_CHAR_INDEX_SCALE", type := .int, accessFlags := 25, slot := 4, constantValue := 0 }, { name := "LOG2_ARRAY_SHORT_INDEX_SCALE", type := .int, accessFlags := 25, slot := 5, constantValue := 0 }, { name := "LOG2_ARRAY_INT_INDEX_SCALE", type := .int, accessFlags := 25, slot := 6, constantValue := 0 }, { name := "LOG2_ARRAY_LONG_INDEX_SCALE", type := .int, accessFlags := 25, slot := 7, constantValue := 0 }, { name := "LOG2_ARRAY_FLOAT_INDEX_SCALE", type := .int, accessFlags := 25, slot := 8, constantValue := 0 }, { name := "LOG2_ARRAY_DOUBLE_INDEX_SCALE", type := .int, accessFlags := 25, slot := 9, constantValue := 0 }, { name := "LOG2_BYTE_BIT_SIZE", type := .int, accessFlags := 26, slot := 10, constantValue := 0 }, { name := "T_BOOLEAN", type := .int, accessFlags := 25, slot := 11, constantValue := 0 }, { name := "T_CHAR", type := .int, accessFlags := 25, slot := 12, constantValue := 0 }, { name := "T_FLOAT", type := .int, accessFlags := 25, slot := 13, constantValue := 0 }, { name := "T_DOUBLE", type := .int, accessFlags := 25, slot := 14, constantValue := 0 }, { name := "T_BYTE", type := .int, accessFlags := 25, slot := 15, constantValue := 0 }, { name := "T_SHORT", type := .int, accessFlags := 25, slot := 16, constantValue := 0 }, { name := "T_INT", type := .int, accessFlags := 25, slot := 17, constantValue := 0 }, { name := "T_LONG", type := .int, accessFlags := 25, slot := 18, constantValue := 0 }, { name := "JLA", type := (.object "jdk/internal/access/JavaLangAccess"), accessFlags := 26, slot := 19, constantValue := 0 }, { name := "SOFT_MAX_ARRAY_LENGTH", type := .int, accessFlags := 25, slot := 20, constantValue := 0 }]
  methods := #[k15m0]
  instanceTypes := #[]
  staticTypes := #[(.object "jdk/internal/misc/Unsafe"), .boolean, .int, .int, .int, .int, .int, .int, .int, .int, .int, .int, .int, .int, .int, .int, .int, .int, .int, (.object "jdk/internal/access/JavaLangAccess"), .int]
  resolved := Array.replicate 378 none
  statics := none }

def pool16 : Array CpInfo := pool [(1, u "java/lang/Cloneable"), (0, .class_ 1), (0, u "java/lang/Object"), (0, .class_ 3)] 3

/-- java/lang/Cloneable -/
def k16 : Class := { plain "java/lang/Cloneable" (some 0) with
  accessFlags := 1537
  interfaces := #[]
  cf := some (fileOf pool16 2 #[] #[] 1537 4 #[] #[])
  fields := #[]
  methods := #[]
  instanceTypes := #[]
  staticTypes := #[]
  resolved := Array.replicate 8 none
  statics := none }

/-- the primitive byte -/
def k17 : Class := { plain "byte" none with kind := .primitive 'B', accessFlags := 0x411 }
/-- [B -/
def k18 : Class := { plain "[B" (some 0) with kind := .array 17 .byte, interfaces := #[16, 3], accessFlags := 1041 }

/-- the primitive char -/
def k19 : Class := { plain "char" none with kind := .primitive 'C', accessFlags := 0x411 }
/-- [C -/
def k20 : Class := { plain "[C" (some 0) with kind := .array 19 .char, interfaces := #[16, 3], accessFlags := 1041 }

/-- the primitive int -/
def k21 : Class := { plain "int" none with kind := .primitive 'I', accessFlags := 0x411 }
/-- [I -/
def k22 : Class := { plain "[I" (some 0) with kind := .array 21 .int, interfaces := #[16, 3], accessFlags := 1041 }

def heap : Heap := #[{ cls := 8, slots := #[.long 0, .int 1, .null, .int 0, .null, .int 0, .int 0], vm := .statics 8 },
  { cls := 13, slots := #[.ref 3, .ref 4, .ref 5, .ref 6, .null], vm := .statics 13 },
  { cls := 14, slots := #[.null, .null, .null], vm := .statics 14 },
  { cls := 13, slots := #[.null, .int 0, .int 0], vm := .none },
  { cls := 13, slots := #[.null, .int 1, .int 0], vm := .none },
  { cls := 13, slots := #[.null, .int 2, .int 0], vm := .none },
  { cls := 13, slots := #[.null, .int 3, .int 0], vm := .none }]
def classes : Array Class := #[k0, k1, k2, k3, k4, k5, k6, k7, k8, k9, k10, k11, k12, k13, k14, k15, k16, k17, k18, k19, k20, k21, k22]
def interned : List (Array UInt16 × Addr) := []
def slotsUsed : Nat := 27
def theMethod : MethodId := ⟨1, 7⟩
def args0 : Array Value := #[.int 7, .int 8, .int 9]
def aboutOver (below : List Frame) : State where
  vm := { classes := classes, interned := interned.toArray }
  heap := heap
  slotsUsed := slotsUsed
  threads := #[{ frames := .invoking theMethod args0 :: below }]
def below0 : List Frame := [.native { method := ⟨0, 0⟩, args := #[] }]
def about1 : State := aboutOver below0
def p0 : Program := .bare "" "" ""
def e0 : Env := launch0.env 0 0 0
theorem w_frames : about1.frames = Frame.invoking theMethod args0 :: below0 := rfl
set_option maxRecDepth 65536 in
theorem w_args : argsFit about1.vm theMethod args0 = true := by decide +kernel
set_option maxRecDepth 65536 in
theorem w_heap : heapFits about1 = true := by decide +kernel
set_option maxRecDepth 65536 in
theorem w_runnable : about1.curStatus? = some .runnable := by decide +kernel
set_option maxRecDepth 65536 in
theorem w_alone : about1.alone = true := by decide +kernel
set_option maxRecDepth 65536 in
theorem w_named : about1.methodNamed? x = some theMethod := by decide +kernel
set_option maxRecDepth 65536 in
theorem w_hears : about1.hears theMethod below0 = true := by decide +kernel
set_option maxRecDepth 65536 in
theorem w_ripe : about1.ripe theMethod args0 below0 = true := by decide +kernel
theorem w_running : about1.status = .running := rfl
set_option maxRecDepth 65536 in
theorem w_room : about1.hasRoom e0.platform room_1 = true :=
  launch0.hasRoom_least _ room_1 (by decide +kernel) (by decide +kernel) (by decide +kernel) (by decide +kernel) (by decide +kernel) (by decide +kernel)
theorem allAtoms_all (ts : List Jvm.Cond) (a : Array Jvm.Value) (st : Jvm.State) : (allAtoms ts).before a st = ts.all (fun c => c.before a st) := by
  induction ts with
  | nil => rfl
  | cons c t ih =>
    show (Jvm.Cond.and c (allAtoms t)).before a st = _
    rw [Jvm.Cond.before_and, ih, List.all_cons]
def words1 : List Jvm.Cond := Jvm.Cond.code x code maxLocals ret :: tables_1
/-- a 'code' word, met by the world's own term for the bytes: nothing is compared byte by byte -/
theorem code_word {y : MethodName} {bytes : ByteArray} {mx : Nat} {rt : Option FieldType} {a : Array Value} {s : State} {m : MethodId} {meth : Method} {c : Code} (h1 : s.methodNamed? y = some m) (h2 : s.vm.method? m = some meth) (h3 : meth.code = some c) (h4 : c.code = bytes)
    (h5 : (c.maxLocals == mx && c.exceptionTable.isEmpty && decide (c.maxStack ≤ mostOperands) && decide (meth.sig.returnType = rt) && !meth.locks && decide (parseMethodDescriptor y.desc = some meth.sig)) = true) : (Jvm.Cond.code y bytes mx rt).before a s = true := by
  simp only [Bool.and_eq_true, beq_iff_eq, Bool.not_eq_true', decide_eq_true_eq] at h5
  obtain ⟨⟨⟨⟨⟨g1, g2⟩, g3⟩, g4⟩, g5⟩, g6⟩ := h5
  simp [Cond.before, Cond.holds, Cond.value, h1, h2, h3, h4, g1, g2, g3, g4, g5, g6]
def isCode : Jvm.Cond → Bool
  | .code _ _ _ _ => true
  | _ => false
theorem all_split {L : List Jvm.Cond} {P : Jvm.Cond → Bool} (h1 : L.all (fun c => isCode c || P c) = true) (h2 : ∀ c ∈ L.filter isCode, P c = true) : L.all P = true := by
  refine List.all_eq_true.mpr fun c hc => ?_
  have h := List.all_eq_true.mp h1 c hc
  rcases Bool.eq_false_or_eq_true (isCode c) with hi | hi
  · exact h2 c (List.mem_filter.mpr ⟨hc, hi⟩)
  · simpa [hi] using h
set_option maxRecDepth 65536 in
theorem w_c0 : (Jvm.Cond.code x code maxLocals ret).before args0 about1 = true := code_word (m := ⟨1, 7⟩) (meth := k1m7) (c := k1c7) (by decide +kernel) rfl rfl rfl (by decide +kernel)
set_option maxRecDepth 65536 in
theorem w_c1 : (Jvm.Cond.code ({ cls := "com/example/vestline/vestline/ocf/FindingEqualsPinLaw", name := "location", desc := "(II)Lcom/example/vestline/vestline/input/Location;" } : Jvm.MethodName) method_6_code (3 : Nat) (Option.some (Jvm.ClassFile.FieldType.object "com/example/vestline/vestline/input/Location"))).before args0 about1 = true := code_word (m := ⟨1, 5⟩) (meth := k1m5) (c := k1c5) (by decide +kernel) rfl rfl rfl (by decide +kernel)
set_option maxRecDepth 65536 in
theorem w_c2 : (Jvm.Cond.code ({ cls := "java/lang/String", name := "valueOf", desc := "(C)Ljava/lang/String;" } : Jvm.MethodName) jdk_42_method_139_code (1 : Nat) (Option.some (Jvm.ClassFile.FieldType.object "java/lang/String"))).before args0 about1 = true := code_word (m := ⟨8, 3⟩) (meth := k8m3) (c := k8c3) (by decide +kernel) rfl rfl rfl (by decide +kernel)
set_option maxRecDepth 65536 in
theorem w_c3 : (Jvm.Cond.code ({ cls := "java/lang/StringLatin1", name := "canEncode", desc := "(C)Z" } : Jvm.MethodName) jdk_43_method_3_code (1 : Nat) (Option.some Jvm.ClassFile.FieldType.boolean)).before args0 about1 = true := code_word (m := ⟨9, 1⟩) (meth := k9m1) (c := k9c1) (by decide +kernel) rfl rfl rfl (by decide +kernel)
set_option maxRecDepth 65536 in
theorem w_c4 : (Jvm.Cond.code ({ cls := "java/lang/StringLatin1", name := "toBytes", desc := "(C)[B" } : Jvm.MethodName) jdk_43_method_46_code (1 : Nat) (Option.some (Jvm.ClassFile.FieldType.array Jvm.ClassFile.FieldType.byte))).before args0 about1 = true := code_word (m := ⟨9, 3⟩) (meth := k9m3) (c := k9c3) (by decide +kernel) rfl rfl rfl (by decide +kernel)
set_option maxRecDepth 65536 in
theorem w_c5 : (Jvm.Cond.code ({ cls := "java/lang/String", name := "<init>", desc := "([BB)V" } : Jvm.MethodName) jdk_42_method_151_code (3 : Nat) (Option.none : Option Jvm.ClassFile.FieldType)).before args0 about1 = true := code_word (m := ⟨8, 5⟩) (meth := k8m5) (c := k8c5) (by decide +kernel) rfl rfl rfl (by decide +kernel)
set_option maxRecDepth 65536 in
theorem w_c6 : (Jvm.Cond.code ({ cls := "java/lang/Object", name := "<init>", desc := "()V" } : Jvm.MethodName) object_method_1_code (1 : Nat) (Option.none : Option Jvm.ClassFile.FieldType)).before args0 about1 = true := code_word (m := ⟨0, 0⟩) (meth := k0m0) (c := k0c0) (by decide +kernel) rfl rfl rfl (by decide +kernel)
set_option maxRecDepth 65536 in
theorem w_c7 : (Jvm.Cond.code ({ cls := "com/example/vestline/vestline/input/Location", name := "<init>", desc := "(Ljava/lang/String;Ljava/lang/String;)V" } : Jvm.MethodName) prog_17_method_1_code (3 : Nat) (Option.none : Option Jvm.ClassFile.FieldType)).before args0 about1 = true := code_word (m := ⟨2, 0⟩) (meth := k2m0) (c := k2c0) (by decide +kernel) rfl rfl rfl (by decide +kernel)
set_option maxRecDepth 65536 in
theorem w_c8 : (Jvm.Cond.code ({ cls := "java/util/Objects", name := "requireNonNull", desc := "(Ljava/lang/Object;Ljava/lang/String;)Ljava/lang/Object;" } : Jvm.MethodName) jdk_31_method_11_code (2 : Nat) (Option.some (Jvm.ClassFile.FieldType.object "java/lang/Object"))).before args0 about1 = true := code_word (m := ⟨10, 1⟩) (meth := k10m1) (c := k10c1) (by decide +kernel) rfl rfl rfl (by decide +kernel)
set_option maxRecDepth 65536 in
theorem w_c9 : (Jvm.Cond.code ({ cls := "com/example/vestline/vestline/ocf/FindingEqualsPinLaw", name := "finding", desc := "(ILcom/example/vestline/vestline/input/Location;)Lcom/example/vestline/vestline/ocf/Finding;" } : Jvm.MethodName) method_7_code (2 : Nat) (Option.some (Jvm.ClassFile.FieldType.object "com/example/vestline/vestline/ocf/Finding"))).before args0 about1 = true := code_word (m := ⟨1, 6⟩) (meth := k1m6) (c := k1c6) (by decide +kernel) rfl rfl rfl (by decide +kernel)
set_option maxRecDepth 65536 in
theorem w_c10 : (Jvm.Cond.code ({ cls := "com/example/vestline/vestline/ocf/FindingEqualsPinLaw", name := "str", desc := "(II)Ljava/lang/String;" } : Jvm.MethodName) method_2_code (2 : Nat) (Option.some (Jvm.ClassFile.FieldType.object "java/lang/String"))).before args0 about1 = true := code_word (m := ⟨1, 1⟩) (meth := k1m1) (c := k1c1) (by decide +kernel) rfl rfl rfl (by decide +kernel)
set_option maxRecDepth 65536 in
theorem w_c11 : (Jvm.Cond.code ({ cls := "java/lang/String", name := "<init>", desc := "([C)V" } : Jvm.MethodName) jdk_42_method_3_code (2 : Nat) (Option.none : Option Jvm.ClassFile.FieldType)).before args0 about1 = true := code_word (m := ⟨8, 1⟩) (meth := k8m1) (c := k8c1) (by decide +kernel) rfl rfl rfl (by decide +kernel)
set_option maxRecDepth 65536 in
theorem w_c12 : (Jvm.Cond.code ({ cls := "java/lang/String", name := "<init>", desc := "([CIILjava/lang/Void;)V" } : Jvm.MethodName) jdk_42_method_149_code (6 : Nat) (Option.none : Option Jvm.ClassFile.FieldType)).before args0 about1 = true := code_word (m := ⟨8, 4⟩) (meth := k8m4) (c := k8c4) (by decide +kernel) rfl rfl rfl (by decide +kernel)
set_option maxRecDepth 65536 in
theorem w_c13 : (Jvm.Cond.code ({ cls := "com/example/vestline/vestline/ocf/FindingEqualsPinLaw", name := "kind", desc := "(I)Lcom/example/vestline/vestline/ocf/Finding$Kind;" } : Jvm.MethodName) method_5_code (1 : Nat) (Option.some (Jvm.ClassFile.FieldType.object "com/example/vestline/vestline/ocf/Finding$Kind"))).before args0 about1 = true := code_word (m := ⟨1, 4⟩) (meth := k1m4) (c := k1c4) (by decide +kernel) rfl rfl rfl (by decide +kernel)
set_option maxRecDepth 65536 in
theorem w_c14 : (Jvm.Cond.code ({ cls := "com/example/vestline/vestline/ocf/Finding", name := "<init>", desc := "(Ljava/lang/String;Lcom/example/vestline/vestline/input/Location;Lcom/example/vestline/vestline/ocf/Finding$Kind;Ljava/lang/String;)V" } : Jvm.MethodName) prog_22_method_1_code (5 : Nat) (Option.none : Option Jvm.ClassFile.FieldType)).before args0 about1 = true := code_word (m := ⟨11, 0⟩) (meth := k11m0) (c := k11c0) (by decide +kernel) rfl rfl rfl (by decide +kernel)
set_option maxRecDepth 65536 in
theorem w_c15 : (Jvm.Cond.code ({ cls := "com/example/vestline/vestline/input/Location", name := "item", desc := "()Ljava/lang/String;" } : Jvm.MethodName) prog_17_method_3_code (1 : Nat) (Option.some (Jvm.ClassFile.FieldType.object "java/lang/String"))).before args0 about1 = true := code_word (m := ⟨2, 1⟩) (meth := k2m1) (c := k2c1) (by decide +kernel) rfl rfl rfl (by decide +kernel)
set_option maxRecDepth 65536 in
theorem w_c16 : (Jvm.Cond.code ({ cls := "com/example/vestline/vestline/ocf/Finding", name := "equals", desc := "(Ljava/lang/Object;)Z" } : Jvm.MethodName) prog_22_method_7_code (3 : Nat) (Option.some Jvm.ClassFile.FieldType.boolean)).before args0 about1 = true := code_word (m := ⟨11, 1⟩) (meth := k11m1) (c := k11c1) (by decide +kernel) rfl rfl rfl (by decide +kernel)
set_option maxRecDepth 65536 in
theorem w_c17 : (Jvm.Cond.code ({ cls := "com/example/vestline/vestline/ocf/FindingEqualsPinLaw", name := "itemLen", desc := "(I)I" } : Jvm.MethodName) method_3_code (1 : Nat) (Option.some Jvm.ClassFile.FieldType.int)).before args0 about1 = true := code_word (m := ⟨1, 2⟩) (meth := k1m2) (c := k1c2) (by decide +kernel) rfl rfl rfl (by decide +kernel)
set_option maxRecDepth 65536 in
theorem w_c18 : (Jvm.Cond.code ({ cls := "com/example/vestline/vestline/ocf/FindingEqualsPinLaw", name := "sameStr", desc := "(IIII)Z" } : Jvm.MethodName) method_4_code (4 : Nat) (Option.some Jvm.ClassFile.FieldType.boolean)).before args0 about1 = true := code_word (m := ⟨1, 3⟩) (meth := k1m3) (c := k1c3) (by decide +kernel) rfl rfl rfl (by decide +kernel)
set_option maxRecDepth 65536 in
theorem w_c19 : (Jvm.Cond.code ({ cls := "java/lang/String", name := "equals", desc := "(Ljava/lang/Object;)Z" } : Jvm.MethodName) jdk_42_method_66_code (3 : Nat) (Option.some Jvm.ClassFile.FieldType.boolean)).before args0 about1 = true := code_word (m := ⟨8, 2⟩) (meth := k8m2) (c := k8c2) (by decide +kernel) rfl rfl rfl (by decide +kernel)
set_option maxRecDepth 65536 in
theorem w_c20 : (Jvm.Cond.code ({ cls := "java/lang/StringLatin1", name := "equals", desc := "([B[B)Z" } : Jvm.MethodName) jdk_43_method_13_code (3 : Nat) (Option.some Jvm.ClassFile.FieldType.boolean)).before args0 about1 = true := code_word (m := ⟨9, 2⟩) (meth := k9m2) (c := k9c2) (by decide +kernel) rfl rfl rfl (by decide +kernel)
def codes1 : List Jvm.Cond := [Jvm.Cond.code x code maxLocals ret, Jvm.Cond.code ({ cls := "com/example/vestline/vestline/ocf/FindingEqualsPinLaw", name := "location", desc := "(II)Lcom/example/vestline/vestline/input/Location;" } : Jvm.MethodName) method_6_code (3 : Nat) (Option.some (Jvm.ClassFile.FieldType.object "com/example/vestline/vestline/input/Location")), Jvm.Cond.code ({ cls := "java/lang/String", name := "valueOf", desc := "(C)Ljava/lang/String;" } : Jvm.MethodName) jdk_42_method_139_code (1 : Nat) (Option.some (Jvm.ClassFile.FieldType.object "java/lang/String")), Jvm.Cond.code ({ cls := "java/lang/StringLatin1", name := "canEncode", desc := "(C)Z" } : Jvm.MethodName) jdk_43_method_3_code (1 : Nat) (Option.some Jvm.ClassFile.FieldType.boolean), Jvm.Cond.code ({ cls := "java/lang/StringLatin1", name := "toBytes", desc := "(C)[B" } : Jvm.MethodName) jdk_43_method_46_code (1 : Nat) (Option.some (Jvm.ClassFile.FieldType.array Jvm.ClassFile.FieldType.byte)), Jvm.Cond.code ({ cls := "java/lang/String", name := "<init>", desc := "([BB)V" } : Jvm.MethodName) jdk_42_method_151_code (3 : Nat) (Option.none : Option Jvm.ClassFile.FieldType), Jvm.Cond.code ({ cls := "java/lang/Object", name := "<init>", desc := "()V" } : Jvm.MethodName) object_method_1_code (1 : Nat) (Option.none : Option Jvm.ClassFile.FieldType), Jvm.Cond.code ({ cls := "com/example/vestline/vestline/input/Location", name := "<init>", desc := "(Ljava/lang/String;Ljava/lang/String;)V" } : Jvm.MethodName) prog_17_method_1_code (3 : Nat) (Option.none : Option Jvm.ClassFile.FieldType), Jvm.Cond.code ({ cls := "java/util/Objects", name := "requireNonNull", desc := "(Ljava/lang/Object;Ljava/lang/String;)Ljava/lang/Object;" } : Jvm.MethodName) jdk_31_method_11_code (2 : Nat) (Option.some (Jvm.ClassFile.FieldType.object "java/lang/Object")), Jvm.Cond.code ({ cls := "com/example/vestline/vestline/ocf/FindingEqualsPinLaw", name := "finding", desc := "(ILcom/example/vestline/vestline/input/Location;)Lcom/example/vestline/vestline/ocf/Finding;" } : Jvm.MethodName) method_7_code (2 : Nat) (Option.some (Jvm.ClassFile.FieldType.object "com/example/vestline/vestline/ocf/Finding")), Jvm.Cond.code ({ cls := "com/example/vestline/vestline/ocf/FindingEqualsPinLaw", name := "str", desc := "(II)Ljava/lang/String;" } : Jvm.MethodName) method_2_code (2 : Nat) (Option.some (Jvm.ClassFile.FieldType.object "java/lang/String")), Jvm.Cond.code ({ cls := "java/lang/String", name := "<init>", desc := "([C)V" } : Jvm.MethodName) jdk_42_method_3_code (2 : Nat) (Option.none : Option Jvm.ClassFile.FieldType), Jvm.Cond.code ({ cls := "java/lang/String", name := "<init>", desc := "([CIILjava/lang/Void;)V" } : Jvm.MethodName) jdk_42_method_149_code (6 : Nat) (Option.none : Option Jvm.ClassFile.FieldType), Jvm.Cond.code ({ cls := "com/example/vestline/vestline/ocf/FindingEqualsPinLaw", name := "kind", desc := "(I)Lcom/example/vestline/vestline/ocf/Finding$Kind;" } : Jvm.MethodName) method_5_code (1 : Nat) (Option.some (Jvm.ClassFile.FieldType.object "com/example/vestline/vestline/ocf/Finding$Kind")), Jvm.Cond.code ({ cls := "com/example/vestline/vestline/ocf/Finding", name := "<init>", desc := "(Ljava/lang/String;Lcom/example/vestline/vestline/input/Location;Lcom/example/vestline/vestline/ocf/Finding$Kind;Ljava/lang/String;)V" } : Jvm.MethodName) prog_22_method_1_code (5 : Nat) (Option.none : Option Jvm.ClassFile.FieldType), Jvm.Cond.code ({ cls := "com/example/vestline/vestline/input/Location", name := "item", desc := "()Ljava/lang/String;" } : Jvm.MethodName) prog_17_method_3_code (1 : Nat) (Option.some (Jvm.ClassFile.FieldType.object "java/lang/String")), Jvm.Cond.code ({ cls := "com/example/vestline/vestline/ocf/Finding", name := "equals", desc := "(Ljava/lang/Object;)Z" } : Jvm.MethodName) prog_22_method_7_code (3 : Nat) (Option.some Jvm.ClassFile.FieldType.boolean), Jvm.Cond.code ({ cls := "com/example/vestline/vestline/ocf/FindingEqualsPinLaw", name := "itemLen", desc := "(I)I" } : Jvm.MethodName) method_3_code (1 : Nat) (Option.some Jvm.ClassFile.FieldType.int), Jvm.Cond.code ({ cls := "com/example/vestline/vestline/ocf/FindingEqualsPinLaw", name := "sameStr", desc := "(IIII)Z" } : Jvm.MethodName) method_4_code (4 : Nat) (Option.some Jvm.ClassFile.FieldType.boolean), Jvm.Cond.code ({ cls := "java/lang/String", name := "equals", desc := "(Ljava/lang/Object;)Z" } : Jvm.MethodName) jdk_42_method_66_code (3 : Nat) (Option.some Jvm.ClassFile.FieldType.boolean), Jvm.Cond.code ({ cls := "java/lang/StringLatin1", name := "equals", desc := "([B[B)Z" } : Jvm.MethodName) jdk_43_method_13_code (3 : Nat) (Option.some Jvm.ClassFile.FieldType.boolean)]
set_option maxRecDepth 65536 in
theorem codes_eq : words1.filter isCode = codes1 := rfl
theorem w_codes : ∀ c ∈ words1.filter isCode, c.before args0 about1 = true := by
  rw [codes_eq]
  intro c hc
  simp only [codes1, List.mem_cons, List.not_mem_nil, or_false] at hc
  rcases hc with rfl | rfl | rfl | rfl | rfl | rfl | rfl | rfl | rfl | rfl | rfl | rfl | rfl | rfl | rfl | rfl | rfl | rfl | rfl | rfl | rfl
  · exact w_c0
  · exact w_c1
  · exact w_c2
  · exact w_c3
  · exact w_c4
  · exact w_c5
  · exact w_c6
  · exact w_c7
  · exact w_c8
  · exact w_c9
  · exact w_c10
  · exact w_c11
  · exact w_c12
  · exact w_c13
  · exact w_c14
  · exact w_c15
  · exact w_c16
  · exact w_c17
  · exact w_c18
  · exact w_c19
  · exact w_c20
set_option maxRecDepth 65536 in
theorem w_t1 : (words1.take 24).all (fun c => isCode c || c.before args0 about1) = true := by decide +kernel
set_option maxRecDepth 65536 in
theorem w_t2 : ((words1.drop 24).take 24).all (fun c => isCode c || c.before args0 about1) = true := by decide +kernel
set_option maxRecDepth 65536 in
theorem w_t3 : (((words1.drop 24).drop 24).take 24).all (fun c => isCode c || c.before args0 about1) = true := by decide +kernel
set_option maxRecDepth 65536 in
theorem w_t4 : ((((words1.drop 24).drop 24).drop 24).take 24).all (fun c => isCode c || c.before args0 about1) = true := by decide +kernel
set_option maxRecDepth 65536 in
theorem w_t5 : (((((words1.drop 24).drop 24).drop 24).drop 24).take 24).all (fun c => isCode c || c.before args0 about1) = true := by decide +kernel
set_option maxRecDepth 65536 in
theorem w_t6 : (((((words1.drop 24).drop 24).drop 24).drop 24).drop 24).all (fun c => isCode c || c.before args0 about1) = true := by decide +kernel
theorem w_tables : (allAtoms (Jvm.Cond.code x code maxLocals ret :: tables_1)).before args0 about1 = true := by
  rw [allAtoms_all]
  show words1.all (fun c => c.before args0 about1) = true
  refine all_split ?_ w_codes
  rw [← List.take_append_drop 24 words1, List.all_append, w_t1, ← List.take_append_drop 24 (words1.drop 24), List.all_append, w_t2, ← List.take_append_drop 24 ((words1.drop 24).drop 24), List.all_append, w_t3, ← List.take_append_drop 24 (((words1.drop 24).drop 24).drop 24), List.all_append, w_t4, ← List.take_append_drop 24 ((((words1.drop 24).drop 24).drop 24).drop 24), List.all_append, w_t5, w_t6]
  rfl
set_option maxRecDepth 65536 in
theorem w_rest : rest_1_c.before args0 about1 = true := by decide +kernel
set_option maxRecDepth 65536 in
theorem w_case : (Jvm.Cond.and given_1 narrow_1).before args0 about1 = true := by decide +kernel
set_option maxRecDepth 65536 in
theorem w_consts : constsHeld consts_1 about1 := Jvm.Lit.constsHeldB_iff.mp (by decide +kernel)
theorem w_applies : (headSpec (Jvm.Cond.code x code maxLocals ret :: tables_1) room_1).applies x e0.platform about1 = true :=
  (Spec.applies_iff w_frames).mpr ⟨w_running, w_runnable, w_alone, w_named, w_hears, w_ripe, w_room, w_tables⟩
theorem atStart : AtStart classFile x code maxLocals ret World_1 tables_1 room_1 Calls_1 rest_1 Pre_1 launch0 p0 e0 about1 theMethod args0 below0 :=
  ⟨lists_1, trivial, launch0.admits_env _ _ _, launch0.least_env, fairChoices_fair.cas, fairChoices_fair.clock, w_frames, w_args, w_heap, w_applies, ⟨w_consts, trivial⟩, w_rest, w_case⟩
end start1
theorem witness_1 : WitnessClaimed_1 := ⟨start1.p0, start1.e0, start1.about1, start1.theMethod, start1.args0, start1.below0, start1.atStart⟩
end Jvm.Pilot.@@N@@
