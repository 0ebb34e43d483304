import JvmDerived
import JvmDerived.Pilot.@@N@@Statement
import JvmDerived.Pilot.@@N@@Code
set_option linter.unusedVariables false
set_option linter.unusedSimpArgs false
namespace Jvm.Pilot.@@N@@.W
open Jvm Jvm.ClassFile Sem Op Lib Jvm.Free Jvm.Stand Jvm.LawKit Jvm.RoadKit
/-! String constants: whatever entry of cl the VM holds an object for, that object bears the entry's text; its two cells are none of xs (the places that the walk may write) -/
def Lt (Z : State) (h : Heap) (xs : List Addr) (a : Addr) (units : Array UInt16) : Prop :=
  ∃ (t : Addr) (kb : ClassId), Exa Z h a "java/lang/String" ∧ Fld Z h a "java/lang/String" "value" "[B" (.ref t) ∧ Fld Z h a "java/lang/String" "coder" "B" (.int 0) ∧ Arv Z h t kb .byte (Int32.ofNat units.size) (units.toList.map fun u => Value.int (Jvm.Lit.byteI u)) (.int 0) ∧ a ∉ xs ∧ t ∉ xs
def Lits (Z : State) (cl : List (String × Nat)) (xs : List Addr) (vm : Vm) (h : Heap) : Prop :=
  (∀ x ∈ xs, x < h.size) ∧ ∀ q ∈ cl, ∀ (c : ClassId) (k : Class) (cf : ClassFile) (i : Nat) (units : Array UInt16) (a : Addr), vm.findClass q.1 = some c → vm.classes[c]? = some k → k.cf = some cf → cf.constantPool[q.2]? = some (.string i) → cf.constantPool[i]? = some (.utf8 units) →
    (k.resolved[q.2]? = some (some (.string a)) ∨ (k.resolved[q.2]? = some none ∧ vm.interned.find? (fun p => p.1 == units) = some (units, a))) → Lt Z h xs a units
section LitFacts
variable {Z : State} {cl : List (String × Nat)} {xs : List Addr} {vm : Vm} {h h' : Heap} {a : Addr} {units : Array UInt16}
theorem Lt.ext (F : Lt Z h xs a units) (E : Ext h h') : Lt Z h' xs a units := by
  obtain ⟨t, kb, f1, f2, f3, f4, f5, f6⟩ := F
  exact ⟨t, kb, f1.ext E, f2.ext E, f3.ext E, f4.ext E, f5, f6⟩
theorem Lt.keep {ws : List Addr} (F : Lt Z h xs a units) (K : Keep h h' ws) (hw : ∀ x ∈ ws, x ∈ xs) : Lt Z h' xs a units := by
  obtain ⟨t, kb, f1, f2, f3, f4, f5, f6⟩ := F
  exact ⟨t, kb, f1.keep K, f2.keep K (fun q => f5 (hw _ q)), f3.keep K (fun q => f5 (hw _ q)), f4.keep K (fun q => f6 (hw _ q)), f5, f6⟩
theorem Lt.cons {b : Addr} (F : Lt Z h xs a units) (hb : h.size ≤ b) : Lt Z h (b :: xs) a units := by
  obtain ⟨t, kb, f1, f2, f3, f4, f5, f6⟩ := F
  exact ⟨t, kb, f1, f2, f3, f4, ninS (Nat.ne_of_lt (Nat.lt_of_lt_of_le f1.lt hb)) f5, ninS (Nat.ne_of_lt (Nat.lt_of_lt_of_le f4.lt hb)) f6⟩
theorem Lt.sub {ys : List Addr} (F : Lt Z h xs a units) (hs : ∀ x ∈ ys, x ∈ xs) : Lt Z h ys a units := by
  obtain ⟨t, kb, f1, f2, f3, f4, f5, f6⟩ := F
  exact ⟨t, kb, f1, f2, f3, f4, fun q => f5 (hs _ q), fun q => f6 (hs _ q)⟩
theorem Lits.ext (F : Lits Z cl xs vm h) (E : Ext h h') : Lits Z cl xs vm h' := ⟨fun x hx => Nat.lt_of_lt_of_le (F.1 x hx) E.1, fun q hq c k cf i u a h1 h2 h3 h4 h5 h6 => (F.2 q hq c k cf i u a h1 h2 h3 h4 h5 h6).ext E⟩
theorem Lits.keep {ws : List Addr} (F : Lits Z cl xs vm h) (K : Keep h h' ws) (hw : ∀ x ∈ ws, x ∈ xs) : Lits Z cl xs vm h' := ⟨fun x hx => Nat.lt_of_lt_of_le (F.1 x hx) K.1, fun q hq c k cf i u a h1 h2 h3 h4 h5 h6 => (F.2 q hq c k cf i u a h1 h2 h3 h4 h5 h6).keep K hw⟩
theorem Lits.wr {b : Addr} {sl : Nat} {v : Value} (F : Lits Z cl xs vm h) (W : Wr h h' b sl v) (hb : b ∈ xs) : Lits Z cl xs vm h' := F.keep (Keep.of_wr W) (allS hb all0)
theorem Lits.cons {b : Addr} (F : Lits Z cl xs vm h) (hb : h.size ≤ b) (E : Ext h h') (hb' : b < h'.size) : Lits Z cl (b :: xs) vm h' := ⟨allS hb' fun x hx => Nat.lt_of_lt_of_le (F.1 x hx) E.1, fun q hq c k cf i u a h1 h2 h3 h4 h5 h6 => ((F.2 q hq c k cf i u a h1 h2 h3 h4 h5 h6).cons hb).ext E⟩
theorem Lits.sub {ys : List Addr} (F : Lits Z cl xs vm h) (hs : ∀ x ∈ ys, x ∈ xs) : Lits Z cl ys vm h := ⟨fun x hx => F.1 x (hs x hx), fun q hq c k cf i u a h1 h2 h3 h4 h5 h6 => (F.2 q hq c k cf i u a h1 h2 h3 h4 h5 h6).sub hs⟩
/-- the tables are warmer, the intern table at most one pair longer, whose object bears that pair's text -/
theorem Lits.step {s : State} {vm0 vm1 : Vm} (F : Lits Z cl xs vm0 h) (hsv : s.vm = vm0) (hW : s.Warmed39 vm1) (hi : vm1.interned = vm0.interned ∨ ∃ (units : Array UInt16) (a : Addr), vm1.interned = vm0.interned.push (units, a) ∧ Lt Z h xs a units) : Lits Z cl xs vm1 h := by
  subst hsv
  refine ⟨F.1, ?_⟩
  intro q hq c k1 cf i us b h1 h2 h3 h4 h5 h6
  have hf0 : s.vm.findClass q.1 = some c := by rw [← hW.alike.findClass]; exact h1
  obtain ⟨k0, hk0, -⟩ := Vm.findClass_spec hf0
  obtain ⟨k1', e1, e2, e3, e4, -⟩ := hW.2.2.2 c k0 hk0
  cases h2.symm.trans e1
  have hcf0 : k0.cf = some cf := by rw [e2] at h3; exact h3
  -- what the longer intern table finds
  have fnd : vm1.interned.find? (fun p => p.1 == us) = some (us, b) → s.vm.interned.find? (fun p => p.1 == us) = some (us, b) ∨ (s.vm.interned.find? (fun p => p.1 == us) = none ∧ Lt Z h xs b us) := fun hf => by
    rcases hi with hi | ⟨u0, a0, hi, hl⟩
    · exact Or.inl (by rw [← hi]; exact hf)
    · rw [hi, Array.find?_push] at hf
      cases hs : s.vm.interned.find? (fun p => p.1 == us) with
      | some z => rw [hs] at hf; exact Or.inl (by simpa using hf)
      | none =>
        rw [hs] at hf
        simp only [Option.none_or] at hf
        split at hf
        · cases hf; exact Or.inr ⟨rfl, hl⟩
        · cases hf
  have fin0 : k0.resolved[q.2]? = some none → vm1.interned.find? (fun p => p.1 == us) = some (us, b) → Lt Z h xs b us := fun ho hf => by
    rcases fnd hf with g | g
    · exact F.2 q hq c k0 cf i us b hf0 hk0 hcf0 h4 h5 (Or.inr ⟨ho, g⟩)
    · exact g.2
  rcases e4 q.2 with e0 | ⟨ho, r, e5, hr | ⟨a', text, si, us', rfl, -, q3, q4, q5⟩⟩
  · rcases h6 with h6 | ⟨h6, h7⟩
    · exact F.2 q hq c k0 cf i us b hf0 hk0 hcf0 h4 h5 (Or.inl (e0.symm.trans h6))
    · exact fin0 (e0.symm.trans h6) h7
  · exfalso
    rcases h6 with h6 | ⟨h6, -⟩
    · cases e5.symm.trans h6
      simp [State.rightAt, hk0, hcf0] at hr
    · cases e5.symm.trans h6
  · rcases h6 with h6 | ⟨h6, -⟩
    · cases e5.symm.trans h6
      rw [hcf0] at q3 q4
      have e7 : si = i := by
        have z := q3.symm.trans h4
        simpa using z
      subst e7
      have e8 : us' = us := by simpa [ConstantPool.utf8?, h5] using q4.symm
      subst e8
      exact fin0 ho q5
    · cases e5.symm.trans h6
/-- what the library says of a constant's object, in the facts' words -/
theorem lt_core {U : State} {q : SB.SQ} {cS : ClassId} (hal : Z.vm.Alike U.vm) (hlat : units.all (· < 256) = true) (hsl : SBG.Sl q cS U) (hkS : ∃ kS : Class, U.vm.classes[cS]? = some kS ∧ kS.kind = .ordinary ∧ q.sC.slots.size = kS.instanceTypes.size) (hB : U.vm.findClass "[B" = some q.SA.cls) (hbyt : q.SA.slots = stringBytes units) (ha : q.sa ∉ xs) (ht : q.sd ∉ xs) : Lt Z U.heap xs q.sa units := by
  obtain ⟨⟨s1, s2, s3, ⟨cv, kv, iv, s4, s4'⟩, ⟨cc, kc, ic, s5, s5'⟩, s6, s7, s8, s9, s10, s11, s12, s13, s14, s15, s16⟩, hfS, hcS⟩ := hsl
  obtain ⟨kS, k1, k2, k3⟩ := hkS
  obtain ⟨kv', z4⟩ := ff_back hal s4
  obtain ⟨kc', z5⟩ := ff_back hal s5
  have hfZ : Z.vm.findClass "java/lang/String" = some q.sC.cls := by rw [← hal.findClass, hcS]; exact hfS
  obtain ⟨kz, hkz, -⟩ := Vm.findClass_spec hfZ
  obtain ⟨kz', hkz', ekz⟩ := hal.2.2 _ _ hkz
  have ekS : kz' = kS := Option.some.inj (hkz'.symm.trans (hcS ▸ k1))
  have hBZ : Z.vm.findClass "[B" = some q.SA.cls := by rw [← hal.findClass]; exact hB
  obtain ⟨kb, hkb, -⟩ := Vm.findClass_spec hBZ
  obtain ⟨kb', hkb', ekb⟩ := hal.2.2 _ _ hkb
  obtain ⟨hst, k9, hk9, comp, hkind9⟩ := s11
  have ek9 : k9 = kb' := Option.some.inj (hk9.symm.trans hkb')
  have hAZ : Z.isArrayOf q.SA .byte := ⟨hst, kb, hkb, comp, by rw [ek9, ekb] at hkind9; exact hkind9⟩
  have hsl : q.SA.slots = units.map fun u => Value.int (Jvm.Lit.byteI u) := by rw [hbyt, SBG.stringBytes_lat hlat]; rfl
  have hsz : q.SA.slots.size = units.size := by rw [hsl, Array.size_map]
  have hb31 : units.size < 2 ^ 31 := by rw [← hsz, s13]; exact s14
  have hnn : ¬ Int32.ofNat units.size < 0 := by
    rw [Int32.lt_iff_toInt_lt, Int32.toInt_ofNat_small hb31]; have : (0 : Int32).toInt = 0 := rfl; omega
  have hnc : (Int32.ofNat units.size).toNatClampNeg = units.size := by
    show (Int32.ofNat units.size).toInt.toNat = _
    rw [Int32.toInt_ofNat_small hb31]; simp
  have H : Has q.SA (units.toList.map fun u => Value.int (Jvm.Lit.byteI u)) (.int 0) := fun j hj => by
    have hj' : j < units.size := by omega
    rw [hsl]; simp [hj']
  refine ⟨q.sd, q.SA.cls, ⟨q.sC, kz, s1, hfZ, hkz, s3, fun ho => by rw [k3, ← ekS, ekz]⟩, ⟨q.sC, cv, kv', iv, q.fSV, s1, z4, s6, s2, s3, by rw [← hal.assignable]; exact s4', s8⟩, ⟨q.sC, cc, kc', ic, q.fSC, s1, z5, s7, s2, s3, by rw [← hal.assignable]; exact s5', s9⟩, ⟨q.SA, ⟨s10, hAZ, s12⟩, rfl, by rw [hsz, hnc], hnn, H, fun j hj => ?_⟩, ha, ht⟩
  have e1 := s16 j hj
  have e2 := H j hj
  rw [SBG.getD_of e2] at e1
  exact e1
theorem lt_of_sl {U : State} (hal : Z.vm.Alike U.vm) (hlat : units.all (· < 256) = true) (F : SlOf U a units) : Lt Z U.heap [] a units := by
  obtain ⟨q, cS, rfl, hsl, hkS, hB, hbyt⟩ := F
  exact lt_core hal hlat hsl hkS hB hbyt nin0 nin0
/-- at the case's start -/
theorem Lits.start {a0 : Array Value} (hh : ∀ q ∈ cl, Jvm.Lit.constHeld Z q.1 q.2) (hl : ∀ q ∈ cl, ∃ text : String, (Cond.stringLink q.1 q.2 text).before a0 Z = true ∧ ∀ c ∈ text.toList, c.toNat < 256) (hcw : Jvm.Lit.compactW.before a0 Z = true) (wa : (Cond.arrayClass .byte).before a0 Z = true) (wi : (Cond.instantiable "java/lang/String" 4).before a0 Z = true) : Lits Z cl [] Z.vm Z.heap := by
  refine ⟨all0, ?_⟩
  intro q hq c k cf i us b h1 h2 h3 h4 h5 h6
  obtain ⟨text, w, ht⟩ := hl q hq
  obtain ⟨k', cf', i', us', hk', hcf', hp', hu', -, htext, -⟩ := Cond.stringLink_spec h1 w
  cases h2.symm.trans hk'
  cases h3.symm.trans hcf'
  cases h4.symm.trans hp'
  cases h5.symm.trans hu'
  exact lt_of_sl (Vm.Alike.refl _) (Jvm.ClassFile.lat_of_text htext ht) (heldStart (hh q hq) w ht hcw wa wi c k cf i us b h1 h2 h3 h4 h5 h6)
end LitFacts
/-- what stays fixed in a body's walk, the tables left out -/
def Cx0 (bytes : ByteArray) (maxL : Nat) (ret : Option FieldType) (mn : String) (p : Program) (meth : Method) (c : Code) : Prop :=
  p.tables.exec = Jvm.exec ∧ c.code = bytes ∧ c.maxLocals = maxL ∧ meth.sig.returnType = ret ∧ meth.locks = false ∧ meth.name = mn
/-- and with the tables at hand -/
def Cx (Z : State) (own : String) (bytes : ByteArray) (maxL : Nat) (ret : Option FieldType) (mn : String) (p : Program) (s : State) (m : MethodId) (meth : Method) (c : Code) : Prop :=
  p.tables.exec = Jvm.exec ∧ Z.Warmed39 s.vm ∧ s.vm.findClass own = some m.cls ∧ c.code = bytes ∧ c.maxLocals = maxL ∧ meth.sig.returnType = ret ∧ meth.locks = false ∧ meth.name = mn
/-- from the frame f at the heap h on, the body runs to its end and leaves Q; String constants may come to be loaded -/
def Go (p : Program) (l : Launch) (e : Env) (R : Room) (s : State) (m : MethodId) (args : Array Value) (below : List Frame) (meth : Method) (c : Code) (Z : State) (own : String) (cl : List (String × Nat)) (xs0 : List Addr) (n0 kc ks : Nat) (Q : Option Value → Heap → Prop) (xs : List Addr) (h : Heap) (cells slots : Nat) (f : JFrame) : Prop :=
  ∀ (T : State) (locs : List Loc) (vm0 : Vm) (k0 : Nat), Stand p l e R (s.setVm vm0) m args below meth c T locs cells slots → s.Since vm0 k0 → k0 ≤ h.size → Z.Warmed39 vm0 → vm0.findClass own = some m.cls → T.heap = h → Fr n0 locs → Lits Z cl xs vm0 h →
    ∃ s₂ o, Steps p.tables e below (T.setTop f) s₂ ∧ s₂.status = .running ∧ Ended s₂ below o ∧ ∃ v L, o = .returned v ∧ (Q v s₂.heap ∧ Lits Z cl xs0 s₂.vm s₂.heap ∧ Fr n0 L) ∧ ReturnedEndW s o s₂ L kc ks
/-- a body's contract: called with as' at the heap h it returns, and Q holds -/
def Ctr (l : Launch) (Z : State) (cl : List (String × Nat)) (xs : List Addr) (n0 : Nat) (y : MethodName) (bytes : ByteArray) (maxL : Nat) (ret : Option FieldType) (ws : List Cond) (rm : Room) (as' : Array Value) (h : Heap) (Q : Option Value → Heap → Prop) : Prop :=
  MetFree l y (head1 (Cond.code y bytes maxL ret :: ws) rm) (fun a U => a = as' ∧ Z.Warmed39 U.vm ∧ U.heap = h ∧ Lits Z cl xs U.vm h) (fun _ _ _ _ _ => True) (fun _ U o U' => ∃ v L, o = .returned v ∧ (Q v U'.heap ∧ Lits Z cl xs U'.vm U'.heap ∧ Fr n0 L) ∧ ReturnedEndW U o U' L rm.cells rm.slots)
theorem Ctr.body {l : Launch} {Z : State} {cl : List (String × Nat)} {xs : List Addr} {n0 : Nat} {y : MethodName} {bytes : ByteArray} {maxL : Nat} {ret : Option FieldType} {ws : List Cond} {rm : Room} {as' : Array Value} {h : Heap} {Q : Option Value → Heap → Prop}
    (hp : plainFor y = true)
    (body : ∀ p e s m below meth c, Cx0 bytes maxL ret y.name p meth c → Go p l e rm s m as' below meth c Z y.cls cl xs n0 rm.cells rm.slots Q xs h 0 0 (entryFrame m as' maxL)) : Ctr l Z cl xs n0 y bytes maxL ret ws rm as' h Q := by
  refine MetFree.of_bodySF hp hisR ?_
  intro p e s m args below meth c s₁ Bd hml0 hP hK
  obtain ⟨rfl, hZ, hh, hL⟩ := hP
  exact body p e s m below meth c ⟨Bd.exec, Bd.bytes, hml0, Bd.returns, Bd.notSynchronized, (name_of_methodNamed Bd.named Bd.method).1⟩ s₁ [] s.vm 0 (Stand.of_body Bd) ((State.WarmedH.refl s).since 0) (Nat.zero_le _) hZ (findClass_of_methodNamed Bd.named) (by rw [← hh, Bd.state]; rfl) (Fr.nil n0) hL
theorem Ctr.mono {l : Launch} {Z : State} {cl : List (String × Nat)} {xs : List Addr} {n0 : Nat} {y : MethodName} {bytes : ByteArray} {maxL : Nat} {ret : Option FieldType} {ws : List Cond} {rm : Room} {as' : Array Value} {h : Heap} {Q Q' : Option Value → Heap → Prop}
    (C : Ctr l Z cl xs n0 y bytes maxL ret ws rm as' h Q) (hq : ∀ v h', Q v h' → Q' v h') : Ctr l Z cl xs n0 y bytes maxL ret ws rm as' h Q' := by
  intro p e ha hc hk s m args below hf happ hP hK
  obtain ⟨n, o, h1, h2, h3, v, L, h4, ⟨h5, h6⟩, h7⟩ := C p e ha hc hk s m args below hf happ hP hK
  exact ⟨n, o, h1, h2, h3, v, L, h4, ⟨hq _ _ h5, h6⟩, h7⟩
def cdP (cd : ClassFile.Cond) (x y : Int32) : Prop := match cd with
  | .eq => x = y
  | .ne => ¬ x = y
  | .lt => x < y
  | .ge => ¬ x < y
  | .gt => y < x
  | .le => ¬ y < x
def cdN (cd : ClassFile.Cond) (x y : Int32) : Prop := match cd with
  | .eq => ¬ x = y
  | .ne => x = y
  | .lt => ¬ x < y
  | .ge => x < y
  | .gt => ¬ y < x
  | .le => y < x
theorem cd_yes {cd : ClassFile.Cond} {x y : Int32} (h : cdP cd x y) : if_icmp.holds cd x y = true := by
  cases cd
  · exact (teq h).1
  · exact (feq h).2
  · exact (tlt h).1
  · exact (flt h).2.1
  · exact (tlt h).2.2.1
  · exact (flt h).2.2.2
theorem cd_no {cd : ClassFile.Cond} {x y : Int32} (h : cdN cd x y) : if_icmp.holds cd x y = false := by
  cases cd
  · exact (feq h).1
  · exact (teq h).2
  · exact (flt h).1
  · exact (tlt h).2.1
  · exact (flt h).2.2.1
  · exact (tlt h).2.2.2
theorem cd_em (cd : ClassFile.Cond) (x y : Int32) : cdP cd x y ∨ cdN cd x y := by
  cases cd
  · exact Decidable.em (x = y)
  · exact (Decidable.em (x = y)).symm
  · exact Decidable.em (x < y)
  · exact (Decidable.em (x < y)).symm
  · exact Decidable.em (y < x)
  · exact (Decidable.em (y < x)).symm
section Rules
variable {p : Program} {l : Launch} {e : Env} {R : Room} {s : State} {m : MethodId} {args : Array Value} {below : List Frame} {meth : Method} {c : Code} {Z : State} {a0 : Array Value} {own mn : String} {cl : List (String × Nat)} {xs0 xs : List Addr} {bytes : ByteArray} {maxL : Nat} {ret : Option FieldType} {n0 kc ks : Nat} {Q : Option Value → Heap → Prop} {h : Heap} {cells slots : Nat} {pc q : Nat} {L : Array Slot} {S : List Value}
theorem Cx0.at {s' : State} (K : Cx0 bytes maxL ret mn p meth c) (hZ : Z.Warmed39 s'.vm) (ho : s'.vm.findClass own = some m.cls) : Cx Z own bytes maxL ret mn p s' m meth c := ⟨K.1, hZ, ho, K.2⟩
theorem Go.of_step {f f' : JFrame} (K : Cx0 bytes maxL ret mn p meth c) (st : ∀ s', Cx Z own bytes maxL ret mn p s' m meth c → ∀ T locs, Stand p l e R s' m args below meth c T locs cells slots → T.heap = h → ∀ t, Steps p.tables e below (T.setTop f') t → Steps p.tables e below (T.setTop f) t) (k : Go p l e R s m args below meth c Z own cl xs0 n0 kc ks Q xs h cells slots f') : Go p l e R s m args below meth c Z own cl xs0 n0 kc ks Q xs h cells slots f := fun T locs vm0 k0 X hS hk hZ ho eT N H => by
  obtain ⟨s₂, o, a1, a2⟩ := k T locs vm0 k0 X hS hk hZ ho eT N H
  exact ⟨s₂, o, st (s.setVm vm0) (K.at hZ ho) T locs X eT _ a1, a2⟩
/-- a step that warms the tables, the heap as it was -/
theorem Go.of_warm {f f' : JFrame} (K : Cx0 bytes maxL ret mn p meth c) (st : ∀ s', Cx Z own bytes maxL ret mn p s' m meth c → ∀ T locs, Stand p l e R s' m args below meth c T locs cells slots → T.heap = h → ∃ T', Stand p l e R s' m args below meth c T' locs cells slots ∧ T'.heap = h ∧ ∀ t, Steps p.tables e below (T'.setTop f') t → Steps p.tables e below (T.setTop f) t) (k : Go p l e R s m args below meth c Z own cl xs0 n0 kc ks Q xs h cells slots f') : Go p l e R s m args below meth c Z own cl xs0 n0 kc ks Q xs h cells slots f := fun T locs vm0 k0 X hS hk hZ ho eT N H => by
  obtain ⟨T', X', eT', st'⟩ := st (s.setVm vm0) (K.at hZ ho) T locs X eT
  obtain ⟨s₂, o, a1, a2⟩ := k T' locs vm0 k0 X' hS hk hZ ho eT' N H
  exact ⟨s₂, o, st' _ a1, a2⟩
/-- a step that makes or writes -/
theorem Go.of_heap {f : JFrame} {cells' slots' : Nat} (K : Cx0 bytes maxL ret mn p meth c) (st : ∀ s', Cx Z own bytes maxL ret mn p s' m meth c → ∀ T locs, Stand p l e R s' m args below meth c T locs cells slots → T.heap = h → Fr n0 locs → ∃ (T' : State) (h' : Heap) (locs' : List Loc) (f' : JFrame) (xs' : List Addr), Stand p l e R s' m args below meth c T' locs' cells' slots' ∧ T'.heap = h' ∧ h.size ≤ h'.size ∧ Fr n0 locs' ∧ (∀ vm, Lits Z cl xs vm h → Lits Z cl xs' vm h') ∧ (∀ t, Steps p.tables e below (T'.setTop f') t → Steps p.tables e below (T.setTop f) t) ∧ Go p l e R s m args below meth c Z own cl xs0 n0 kc ks Q xs' h' cells' slots' f') : Go p l e R s m args below meth c Z own cl xs0 n0 kc ks Q xs h cells slots f := fun T locs vm0 k0 X hS hk hZ ho eT N H => by
  obtain ⟨T', h', locs', f', xs', X', eT', hsz, N', H', st', k⟩ := st (s.setVm vm0) (K.at hZ ho) T locs X eT N
  obtain ⟨s₂, o, a1, a2⟩ := k T' locs' vm0 k0 X' hS (Nat.le_trans hk hsz) hZ ho eT' N' (H' _ H)
  exact ⟨s₂, o, st' _ a1, a2⟩
theorem Go.entry {f f' : JFrame} (q : f = f') (k : Go p l e R s m args below meth c Z own cl xs0 n0 kc ks Q xs h cells slots f') : Go p l e R s m args below meth c Z own cl xs0 n0 kc ks Q xs h cells slots f := q ▸ k
theorem Go.weaken {f : JFrame} {Q' : Option Value → Heap → Prop} (k : Go p l e R s m args below meth c Z own cl xs0 n0 kc ks Q' xs h cells slots f) (hq : ∀ v h', Q' v h' → Q v h') : Go p l e R s m args below meth c Z own cl xs0 n0 kc ks Q xs h cells slots f := fun T locs vm0 k0 X hS hk hZ ho eT N H => by
  obtain ⟨s₂, o, a1, a2, a3, v, L, a4, ⟨a5, a6⟩, a7⟩ := k T locs vm0 k0 X hS hk hZ ho eT N H
  exact ⟨s₂, o, a1, a2, a3, v, L, a4, ⟨hq _ _ a5, a6⟩, a7⟩
/-- more cells and slots may be booked -/
theorem Go.more {f : JFrame} {cells' slots' : Nat} (hc : cells ≤ cells') (hs : slots ≤ slots') (k : Go p l e R s m args below meth c Z own cl xs0 n0 kc ks Q xs h cells' slots' f) : Go p l e R s m args below meth c Z own cl xs0 n0 kc ks Q xs h cells slots f := fun T locs vm0 k0 X hS hk hZ ho eT N H => k T locs vm0 k0 (X.more hc hs) hS hk hZ ho eT N H
/-- fewer places are kept apart -/
theorem Go.less {f : JFrame} {ys : List Addr} (hs : ∀ x ∈ ys, x ∈ xs) (k : Go p l e R s m args below meth c Z own cl xs0 n0 kc ks Q ys h cells slots f) : Go p l e R s m args below meth c Z own cl xs0 n0 kc ks Q xs h cells slots f := fun T locs vm0 k0 X hS hk hZ ho eT N H => k T locs vm0 k0 X hS hk hZ ho eT N (H.sub hs)
theorem Go.aloadN (K : Cx0 bytes maxL ret mn p meth c) (hq : pc + 1 = q) {k : Fin 4} {v : Value} (hd : decode bytes pc = .ok (.aload_n k, 1)) (hl : L[k.val]? = some (.val v)) (hv : v.isRef = true) (r : Go p l e R s m args below meth c Z own cl xs0 n0 kc ks Q xs h cells slots (mkF m q L (v :: S))) : Go p l e R s m args below meth c Z own cl xs0 n0 kc ks Q xs h cells slots (mkF m pc L S) := Go.of_step K (fun s' K T locs X _ t k => by subst hq; exact XS.aloadN (g := mkF m pc L S) X.here K.1 rfl (hb K.2.2.2.1 hd) hl hv k) r
theorem Go.aload (K : Cx0 bytes maxL ret mn p meth c) (hq : pc + 2 = q) {k : Nat} {v : Value} (hd : decode bytes pc = .ok (.aload k, 2)) (hl : L[k]? = some (.val v)) (hv : v.isRef = true) (r : Go p l e R s m args below meth c Z own cl xs0 n0 kc ks Q xs h cells slots (mkF m q L (v :: S))) : Go p l e R s m args below meth c Z own cl xs0 n0 kc ks Q xs h cells slots (mkF m pc L S) := Go.of_step K (fun s' K T locs X _ t k => by subst hq; exact XS.aload (g := mkF m pc L S) X.here K.1 rfl (hb K.2.2.2.1 hd) hl hv k) r
theorem Go.iloadN (K : Cx0 bytes maxL ret mn p meth c) (hq : pc + 1 = q) {k : Fin 4} {v : Int32} (hd : decode bytes pc = .ok (.iload_n k, 1)) (hl : L[k.val]? = some (.val (.int v))) (r : Go p l e R s m args below meth c Z own cl xs0 n0 kc ks Q xs h cells slots (mkF m q L (.int v :: S))) : Go p l e R s m args below meth c Z own cl xs0 n0 kc ks Q xs h cells slots (mkF m pc L S) := Go.of_step K (fun s' K T locs X _ t k => by subst hq; exact XS.iloadN (g := mkF m pc L S) X.here K.1 rfl (hb K.2.2.2.1 hd) hl k) r
theorem Go.iload (K : Cx0 bytes maxL ret mn p meth c) (hq : pc + 2 = q) {k : Nat} {v : Int32} (hd : decode bytes pc = .ok (.iload k, 2)) (hl : L[k]? = some (.val (.int v))) (r : Go p l e R s m args below meth c Z own cl xs0 n0 kc ks Q xs h cells slots (mkF m q L (.int v :: S))) : Go p l e R s m args below meth c Z own cl xs0 n0 kc ks Q xs h cells slots (mkF m pc L S) := Go.of_step K (fun s' K T locs X _ t k => by subst hq; exact XS.iload (g := mkF m pc L S) X.here K.1 rfl (hb K.2.2.2.1 hd) hl k) r
theorem Go.lloadN (K : Cx0 bytes maxL ret mn p meth c) (hq : pc + 1 = q) {k : Fin 4} {v : Int64} (hd : decode bytes pc = .ok (.lload_n k, 1)) (hl : L[k.val]? = some (.val (.long v))) (r : Go p l e R s m args below meth c Z own cl xs0 n0 kc ks Q xs h cells slots (mkF m q L (.long v :: S))) : Go p l e R s m args below meth c Z own cl xs0 n0 kc ks Q xs h cells slots (mkF m pc L S) := Go.of_step K (fun s' K T locs X _ t k => by subst hq; exact XS.lloadN (g := mkF m pc L S) X.here K.1 rfl (hb K.2.2.2.1 hd) hl k) r
theorem Go.lload (K : Cx0 bytes maxL ret mn p meth c) (hq : pc + 2 = q) {k : Nat} {v : Int64} (hd : decode bytes pc = .ok (.lload k, 2)) (hl : L[k]? = some (.val (.long v))) (r : Go p l e R s m args below meth c Z own cl xs0 n0 kc ks Q xs h cells slots (mkF m q L (.long v :: S))) : Go p l e R s m args below meth c Z own cl xs0 n0 kc ks Q xs h cells slots (mkF m pc L S) := Go.of_step K (fun s' K T locs X _ t k => by subst hq; exact XS.lload (g := mkF m pc L S) X.here K.1 rfl (hb K.2.2.2.1 hd) hl k) r
theorem Go.iconst (K : Cx0 bytes maxL ret mn p meth c) (hq : pc + 1 = q) {i : Int} {v : Int32} (hv : Int32.ofInt i = v) (hd : decode bytes pc = .ok (.iconst i, 1)) (r : Go p l e R s m args below meth c Z own cl xs0 n0 kc ks Q xs h cells slots (mkF m q L (.int v :: S))) : Go p l e R s m args below meth c Z own cl xs0 n0 kc ks Q xs h cells slots (mkF m pc L S) := Go.of_step K (fun s' K T locs X _ t k => by subst hq hv; exact XS.iconst (g := mkF m pc L S) X.here K.1 rfl (hb K.2.2.2.1 hd) k) r
theorem Go.bipush (K : Cx0 bytes maxL ret mn p meth c) (hq : pc + 2 = q) {i : Int} {v : Int32} (hv : (Int8.ofInt i).toInt32 = v) (hd : decode bytes pc = .ok (.bipush i, 2)) (r : Go p l e R s m args below meth c Z own cl xs0 n0 kc ks Q xs h cells slots (mkF m q L (.int v :: S))) : Go p l e R s m args below meth c Z own cl xs0 n0 kc ks Q xs h cells slots (mkF m pc L S) := Go.of_step K (fun s' K T locs X _ t k => by subst hq hv; exact XS.bipush (g := mkF m pc L S) X.here K.1 rfl (hb K.2.2.2.1 hd) k) r
theorem Go.sipush (K : Cx0 bytes maxL ret mn p meth c) (hq : pc + 3 = q) {i : Int} {v : Int32} (hv : (Int16.ofInt i).toInt32 = v) (hd : decode bytes pc = .ok (.sipush i, 3)) (r : Go p l e R s m args below meth c Z own cl xs0 n0 kc ks Q xs h cells slots (mkF m q L (.int v :: S))) : Go p l e R s m args below meth c Z own cl xs0 n0 kc ks Q xs h cells slots (mkF m pc L S) := Go.of_step K (fun s' K T locs X _ t k => by subst hq hv; exact XS.sipush (g := mkF m pc L S) X.here K.1 rfl (hb K.2.2.2.1 hd) k) r
theorem Go.aconstNull (K : Cx0 bytes maxL ret mn p meth c) (hq : pc + 1 = q) (hd : decode bytes pc = .ok (.aconst_null, 1)) (r : Go p l e R s m args below meth c Z own cl xs0 n0 kc ks Q xs h cells slots (mkF m q L (.null :: S))) : Go p l e R s m args below meth c Z own cl xs0 n0 kc ks Q xs h cells slots (mkF m pc L S) := Go.of_step K (fun s' K T locs X _ t k => by subst hq; exact XS.aconstNull (g := mkF m pc L S) X.here K.1 rfl (hb K.2.2.2.1 hd) k) r
theorem Go.ldcInt (K : Cx0 bytes maxL ret mn p meth c) (hq : pc + 2 = q) {i : Nat} {v : Int32} (w : (Cond.constant own i v).before a0 Z = true) (hd : decode bytes pc = .ok (.ldc i, 2)) (r : Go p l e R s m args below meth c Z own cl xs0 n0 kc ks Q xs h cells slots (mkF m q L (.int v :: S))) : Go p l e R s m args below meth c Z own cl xs0 n0 kc ks Q xs h cells slots (mkF m pc L S) := Go.of_step K (fun s' K T locs X _ t k => by subst hq; exact X.ldcInt K.1 K.2.2.1 (mvT K.2.1 w) (g := mkF m pc L S) rfl (hb K.2.2.2.1 hd) _ k) r
theorem Go.ldc2Long (K : Cx0 bytes maxL ret mn p meth c) (hq : pc + 3 = q) {i : Nat} {v : Int64} (w : (Cond.constantLong own i v).before a0 Z = true) (hd : decode bytes pc = .ok (.ldc2_w i, 3)) (r : Go p l e R s m args below meth c Z own cl xs0 n0 kc ks Q xs h cells slots (mkF m q L (.long v :: S))) : Go p l e R s m args below meth c Z own cl xs0 n0 kc ks Q xs h cells slots (mkF m pc L S) := Go.of_step K (fun s' K T locs X _ t k => by subst hq; exact X.ldc2Long K.1 K.2.2.1 (mvT K.2.1 w) (g := mkF m pc L S) rfl (hb K.2.2.2.1 hd) _ k) r
theorem Go.iadd (K : Cx0 bytes maxL ret mn p meth c) (hq : pc + 1 = q) {x y : Int32} (hd : decode bytes pc = .ok (.iadd, 1)) (r : Go p l e R s m args below meth c Z own cl xs0 n0 kc ks Q xs h cells slots (mkF m q L (.int (x + y) :: S))) : Go p l e R s m args below meth c Z own cl xs0 n0 kc ks Q xs h cells slots (mkF m pc L (.int y :: .int x :: S)) := Go.of_step K (fun s' K T locs X _ t k => by subst hq; exact XS.iadd (g := mkF m pc L (.int y :: .int x :: S)) X.here K.1 rfl (hb K.2.2.2.1 hd) rfl k) r
theorem Go.isub (K : Cx0 bytes maxL ret mn p meth c) (hq : pc + 1 = q) {x y : Int32} (hd : decode bytes pc = .ok (.isub, 1)) (r : Go p l e R s m args below meth c Z own cl xs0 n0 kc ks Q xs h cells slots (mkF m q L (.int (x - y) :: S))) : Go p l e R s m args below meth c Z own cl xs0 n0 kc ks Q xs h cells slots (mkF m pc L (.int y :: .int x :: S)) := Go.of_step K (fun s' K T locs X _ t k => by subst hq; exact XS.isub (g := mkF m pc L (.int y :: .int x :: S)) X.here K.1 rfl (hb K.2.2.2.1 hd) rfl k) r
theorem Go.imul (K : Cx0 bytes maxL ret mn p meth c) (hq : pc + 1 = q) {x y : Int32} (hd : decode bytes pc = .ok (.imul, 1)) (r : Go p l e R s m args below meth c Z own cl xs0 n0 kc ks Q xs h cells slots (mkF m q L (.int (x * y) :: S))) : Go p l e R s m args below meth c Z own cl xs0 n0 kc ks Q xs h cells slots (mkF m pc L (.int y :: .int x :: S)) := Go.of_step K (fun s' K T locs X _ t k => by subst hq; exact XS.imul (g := mkF m pc L (.int y :: .int x :: S)) X.here K.1 rfl (hb K.2.2.2.1 hd) rfl k) r
theorem Go.iand (K : Cx0 bytes maxL ret mn p meth c) (hq : pc + 1 = q) {x y : Int32} (hd : decode bytes pc = .ok (.iand, 1)) (r : Go p l e R s m args below meth c Z own cl xs0 n0 kc ks Q xs h cells slots (mkF m q L (.int (x &&& y) :: S))) : Go p l e R s m args below meth c Z own cl xs0 n0 kc ks Q xs h cells slots (mkF m pc L (.int y :: .int x :: S)) := Go.of_step K (fun s' K T locs X _ t k => by subst hq; exact XS.iand (g := mkF m pc L (.int y :: .int x :: S)) X.here K.1 rfl (hb K.2.2.2.1 hd) rfl k) r
theorem Go.ior (K : Cx0 bytes maxL ret mn p meth c) (hq : pc + 1 = q) {x y : Int32} (hd : decode bytes pc = .ok (.ior, 1)) (r : Go p l e R s m args below meth c Z own cl xs0 n0 kc ks Q xs h cells slots (mkF m q L (.int (x ||| y) :: S))) : Go p l e R s m args below meth c Z own cl xs0 n0 kc ks Q xs h cells slots (mkF m pc L (.int y :: .int x :: S)) := Go.of_step K (fun s' K T locs X _ t k => by subst hq; exact XS.ior (g := mkF m pc L (.int y :: .int x :: S)) X.here K.1 rfl (hb K.2.2.2.1 hd) rfl k) r
theorem Go.ixor (K : Cx0 bytes maxL ret mn p meth c) (hq : pc + 1 = q) {x y : Int32} (hd : decode bytes pc = .ok (.ixor, 1)) (r : Go p l e R s m args below meth c Z own cl xs0 n0 kc ks Q xs h cells slots (mkF m q L (.int (x ^^^ y) :: S))) : Go p l e R s m args below meth c Z own cl xs0 n0 kc ks Q xs h cells slots (mkF m pc L (.int y :: .int x :: S)) := Go.of_step K (fun s' K T locs X _ t k => by subst hq; exact XS.ixor (g := mkF m pc L (.int y :: .int x :: S)) X.here K.1 rfl (hb K.2.2.2.1 hd) rfl k) r
theorem Go.ishl (K : Cx0 bytes maxL ret mn p meth c) (hq : pc + 1 = q) {x y : Int32} (hd : decode bytes pc = .ok (.ishl, 1)) (r : Go p l e R s m args below meth c Z own cl xs0 n0 kc ks Q xs h cells slots (mkF m q L (.int (x <<< (y &&& 31)) :: S))) : Go p l e R s m args below meth c Z own cl xs0 n0 kc ks Q xs h cells slots (mkF m pc L (.int y :: .int x :: S)) := Go.of_step K (fun s' K T locs X _ t k => by subst hq; exact XS.ishl (g := mkF m pc L (.int y :: .int x :: S)) X.here K.1 rfl (hb K.2.2.2.1 hd) rfl k) r
theorem Go.ishr (K : Cx0 bytes maxL ret mn p meth c) (hq : pc + 1 = q) {x y : Int32} (hd : decode bytes pc = .ok (.ishr, 1)) (r : Go p l e R s m args below meth c Z own cl xs0 n0 kc ks Q xs h cells slots (mkF m q L (.int (x >>> (y &&& 31)) :: S))) : Go p l e R s m args below meth c Z own cl xs0 n0 kc ks Q xs h cells slots (mkF m pc L (.int y :: .int x :: S)) := Go.of_step K (fun s' K T locs X _ t k => by subst hq; exact XS.ishr (g := mkF m pc L (.int y :: .int x :: S)) X.here K.1 rfl (hb K.2.2.2.1 hd) rfl k) r
theorem Go.iushr (K : Cx0 bytes maxL ret mn p meth c) (hq : pc + 1 = q) {x y : Int32} (hd : decode bytes pc = .ok (.iushr, 1)) (r : Go p l e R s m args below meth c Z own cl xs0 n0 kc ks Q xs h cells slots (mkF m q L (.int ((x.toUInt32 >>> (y &&& 31).toUInt32).toInt32) :: S))) : Go p l e R s m args below meth c Z own cl xs0 n0 kc ks Q xs h cells slots (mkF m pc L (.int y :: .int x :: S)) := Go.of_step K (fun s' K T locs X _ t k => by subst hq; exact XS.iushr (g := mkF m pc L (.int y :: .int x :: S)) X.here K.1 rfl (hb K.2.2.2.1 hd) rfl k) r
theorem Go.ladd (K : Cx0 bytes maxL ret mn p meth c) (hq : pc + 1 = q) {x y : Int64} (hd : decode bytes pc = .ok (.ladd, 1)) (r : Go p l e R s m args below meth c Z own cl xs0 n0 kc ks Q xs h cells slots (mkF m q L (.long (x + y) :: S))) : Go p l e R s m args below meth c Z own cl xs0 n0 kc ks Q xs h cells slots (mkF m pc L (.long y :: .long x :: S)) := Go.of_step K (fun s' K T locs X _ t k => by subst hq; exact XS.ladd (g := mkF m pc L (.long y :: .long x :: S)) X.here K.1 rfl (hb K.2.2.2.1 hd) rfl k) r
theorem Go.lsub (K : Cx0 bytes maxL ret mn p meth c) (hq : pc + 1 = q) {x y : Int64} (hd : decode bytes pc = .ok (.lsub, 1)) (r : Go p l e R s m args below meth c Z own cl xs0 n0 kc ks Q xs h cells slots (mkF m q L (.long (x - y) :: S))) : Go p l e R s m args below meth c Z own cl xs0 n0 kc ks Q xs h cells slots (mkF m pc L (.long y :: .long x :: S)) := Go.of_step K (fun s' K T locs X _ t k => by subst hq; exact XS.lsub (g := mkF m pc L (.long y :: .long x :: S)) X.here K.1 rfl (hb K.2.2.2.1 hd) rfl k) r
theorem Go.lmul (K : Cx0 bytes maxL ret mn p meth c) (hq : pc + 1 = q) {x y : Int64} (hd : decode bytes pc = .ok (.lmul, 1)) (r : Go p l e R s m args below meth c Z own cl xs0 n0 kc ks Q xs h cells slots (mkF m q L (.long (x * y) :: S))) : Go p l e R s m args below meth c Z own cl xs0 n0 kc ks Q xs h cells slots (mkF m pc L (.long y :: .long x :: S)) := Go.of_step K (fun s' K T locs X _ t k => by subst hq; exact XS.lmul (g := mkF m pc L (.long y :: .long x :: S)) X.here K.1 rfl (hb K.2.2.2.1 hd) rfl k) r
theorem Go.land (K : Cx0 bytes maxL ret mn p meth c) (hq : pc + 1 = q) {x y : Int64} (hd : decode bytes pc = .ok (.land, 1)) (r : Go p l e R s m args below meth c Z own cl xs0 n0 kc ks Q xs h cells slots (mkF m q L (.long (x &&& y) :: S))) : Go p l e R s m args below meth c Z own cl xs0 n0 kc ks Q xs h cells slots (mkF m pc L (.long y :: .long x :: S)) := Go.of_step K (fun s' K T locs X _ t k => by subst hq; exact XS.land (g := mkF m pc L (.long y :: .long x :: S)) X.here K.1 rfl (hb K.2.2.2.1 hd) rfl k) r
theorem Go.lor (K : Cx0 bytes maxL ret mn p meth c) (hq : pc + 1 = q) {x y : Int64} (hd : decode bytes pc = .ok (.lor, 1)) (r : Go p l e R s m args below meth c Z own cl xs0 n0 kc ks Q xs h cells slots (mkF m q L (.long (x ||| y) :: S))) : Go p l e R s m args below meth c Z own cl xs0 n0 kc ks Q xs h cells slots (mkF m pc L (.long y :: .long x :: S)) := Go.of_step K (fun s' K T locs X _ t k => by subst hq; exact XS.lor (g := mkF m pc L (.long y :: .long x :: S)) X.here K.1 rfl (hb K.2.2.2.1 hd) rfl k) r
theorem Go.lxor (K : Cx0 bytes maxL ret mn p meth c) (hq : pc + 1 = q) {x y : Int64} (hd : decode bytes pc = .ok (.lxor, 1)) (r : Go p l e R s m args below meth c Z own cl xs0 n0 kc ks Q xs h cells slots (mkF m q L (.long (x ^^^ y) :: S))) : Go p l e R s m args below meth c Z own cl xs0 n0 kc ks Q xs h cells slots (mkF m pc L (.long y :: .long x :: S)) := Go.of_step K (fun s' K T locs X _ t k => by subst hq; exact XS.lxor (g := mkF m pc L (.long y :: .long x :: S)) X.here K.1 rfl (hb K.2.2.2.1 hd) rfl k) r
theorem Go.lshl (K : Cx0 bytes maxL ret mn p meth c) (hq : pc + 1 = q) {x : Int64} {y : Int32} (hd : decode bytes pc = .ok (.lshl, 1)) (r : Go p l e R s m args below meth c Z own cl xs0 n0 kc ks Q xs h cells slots (mkF m q L (.long (x <<< (y &&& 0x3f).toInt64) :: S))) : Go p l e R s m args below meth c Z own cl xs0 n0 kc ks Q xs h cells slots (mkF m pc L (.int y :: .long x :: S)) := Go.of_step K (fun s' K T locs X _ t k => by subst hq; exact XS.lshl (g := mkF m pc L (.int y :: .long x :: S)) X.here K.1 rfl (hb K.2.2.2.1 hd) rfl k) r
theorem Go.lshr (K : Cx0 bytes maxL ret mn p meth c) (hq : pc + 1 = q) {x : Int64} {y : Int32} (hd : decode bytes pc = .ok (.lshr, 1)) (r : Go p l e R s m args below meth c Z own cl xs0 n0 kc ks Q xs h cells slots (mkF m q L (.long (x >>> (y &&& 0x3f).toInt64) :: S))) : Go p l e R s m args below meth c Z own cl xs0 n0 kc ks Q xs h cells slots (mkF m pc L (.int y :: .long x :: S)) := Go.of_step K (fun s' K T locs X _ t k => by subst hq; exact XS.lshr (g := mkF m pc L (.int y :: .long x :: S)) X.here K.1 rfl (hb K.2.2.2.1 hd) rfl k) r
theorem Go.lushr (K : Cx0 bytes maxL ret mn p meth c) (hq : pc + 1 = q) {x : Int64} {y : Int32} (hd : decode bytes pc = .ok (.lushr, 1)) (r : Go p l e R s m args below meth c Z own cl xs0 n0 kc ks Q xs h cells slots (mkF m q L (.long ((x.toUInt64 >>> (y &&& 0x3f).toInt64.toUInt64).toInt64) :: S))) : Go p l e R s m args below meth c Z own cl xs0 n0 kc ks Q xs h cells slots (mkF m pc L (.int y :: .long x :: S)) := Go.of_step K (fun s' K T locs X _ t k => by subst hq; exact XS.lushr (g := mkF m pc L (.int y :: .long x :: S)) X.here K.1 rfl (hb K.2.2.2.1 hd) rfl k) r
theorem Go.lcmp (K : Cx0 bytes maxL ret mn p meth c) (hq : pc + 1 = q) {x y : Int64} (hd : decode bytes pc = .ok (.lcmp, 1)) (r : Go p l e R s m args below meth c Z own cl xs0 n0 kc ks Q xs h cells slots (mkF m q L (.int (lcmpW x y) :: S))) : Go p l e R s m args below meth c Z own cl xs0 n0 kc ks Q xs h cells slots (mkF m pc L (.long y :: .long x :: S)) := Go.of_step K (fun s' K T locs X _ t k => by subst hq; exact XS.lcmp (g := mkF m pc L (.long y :: .long x :: S)) X.here K.1 rfl (hb K.2.2.2.1 hd) rfl k) r
theorem Go.ineg (K : Cx0 bytes maxL ret mn p meth c) (hq : pc + 1 = q) {x : Int32} (hd : decode bytes pc = .ok (.ineg, 1)) (r : Go p l e R s m args below meth c Z own cl xs0 n0 kc ks Q xs h cells slots (mkF m q L (.int (-x) :: S))) : Go p l e R s m args below meth c Z own cl xs0 n0 kc ks Q xs h cells slots (mkF m pc L (.int x :: S)) := Go.of_step K (fun s' K T locs X _ t k => by subst hq; exact XS.ineg (g := mkF m pc L (.int x :: S)) X.here K.1 rfl (hb K.2.2.2.1 hd) rfl k) r
theorem Go.i2l (K : Cx0 bytes maxL ret mn p meth c) (hq : pc + 1 = q) {x : Int32} (hd : decode bytes pc = .ok (.i2l, 1)) (r : Go p l e R s m args below meth c Z own cl xs0 n0 kc ks Q xs h cells slots (mkF m q L (.long x.toInt64 :: S))) : Go p l e R s m args below meth c Z own cl xs0 n0 kc ks Q xs h cells slots (mkF m pc L (.int x :: S)) := Go.of_step K (fun s' K T locs X _ t k => by subst hq; exact XS.i2l (g := mkF m pc L (.int x :: S)) X.here K.1 rfl (hb K.2.2.2.1 hd) rfl k) r
theorem Go.l2i (K : Cx0 bytes maxL ret mn p meth c) (hq : pc + 1 = q) {x : Int64} (hd : decode bytes pc = .ok (.l2i, 1)) (r : Go p l e R s m args below meth c Z own cl xs0 n0 kc ks Q xs h cells slots (mkF m q L (.int x.toInt32 :: S))) : Go p l e R s m args below meth c Z own cl xs0 n0 kc ks Q xs h cells slots (mkF m pc L (.long x :: S)) := Go.of_step K (fun s' K T locs X _ t k => by subst hq; exact XS.l2i (g := mkF m pc L (.long x :: S)) X.here K.1 rfl (hb K.2.2.2.1 hd) rfl k) r
theorem Go.i2b (K : Cx0 bytes maxL ret mn p meth c) (hq : pc + 1 = q) {x : Int32} (hd : decode bytes pc = .ok (.i2b, 1)) (r : Go p l e R s m args below meth c Z own cl xs0 n0 kc ks Q xs h cells slots (mkF m q L (.int x.toInt8.toInt32 :: S))) : Go p l e R s m args below meth c Z own cl xs0 n0 kc ks Q xs h cells slots (mkF m pc L (.int x :: S)) := Go.of_step K (fun s' K T locs X _ t k => by subst hq; exact XS.i2b (g := mkF m pc L (.int x :: S)) X.here K.1 rfl (hb K.2.2.2.1 hd) rfl k) r
theorem Go.i2s (K : Cx0 bytes maxL ret mn p meth c) (hq : pc + 1 = q) {x : Int32} (hd : decode bytes pc = .ok (.i2s, 1)) (r : Go p l e R s m args below meth c Z own cl xs0 n0 kc ks Q xs h cells slots (mkF m q L (.int x.toInt16.toInt32 :: S))) : Go p l e R s m args below meth c Z own cl xs0 n0 kc ks Q xs h cells slots (mkF m pc L (.int x :: S)) := Go.of_step K (fun s' K T locs X _ t k => by subst hq; exact XS.i2s (g := mkF m pc L (.int x :: S)) X.here K.1 rfl (hb K.2.2.2.1 hd) rfl k) r
theorem Go.i2c (K : Cx0 bytes maxL ret mn p meth c) (hq : pc + 1 = q) {x : Int32} (hd : decode bytes pc = .ok (.i2c, 1)) (r : Go p l e R s m args below meth c Z own cl xs0 n0 kc ks Q xs h cells slots (mkF m q L (.int x.toUInt32.toUInt16.toUInt32.toInt32 :: S))) : Go p l e R s m args below meth c Z own cl xs0 n0 kc ks Q xs h cells slots (mkF m pc L (.int x :: S)) := Go.of_step K (fun s' K T locs X _ t k => by subst hq; exact XS.i2c (g := mkF m pc L (.int x :: S)) X.here K.1 rfl (hb K.2.2.2.1 hd) rfl k) r
theorem Go.irem (K : Cx0 bytes maxL ret mn p meth c) (hq : pc + 1 = q) {x y : Int32} (hd : decode bytes pc = .ok (.irem, 1)) (hy : y ≠ 0) (r : Go p l e R s m args below meth c Z own cl xs0 n0 kc ks Q xs h cells slots (mkF m q L (.int (x % y) :: S))) : Go p l e R s m args below meth c Z own cl xs0 n0 kc ks Q xs h cells slots (mkF m pc L (.int y :: .int x :: S)) := Go.of_step K (fun s' K T locs X _ t k => by subst hq; exact iremM (g := mkF m pc L (.int y :: .int x :: S)) X K.1 rfl (hb K.2.2.2.1 hd) rfl hy k) r
theorem Go.idiv (K : Cx0 bytes maxL ret mn p meth c) (hq : pc + 1 = q) {x y : Int32} (hd : decode bytes pc = .ok (.idiv, 1)) (hy : y ≠ 0) (r : Go p l e R s m args below meth c Z own cl xs0 n0 kc ks Q xs h cells slots (mkF m q L (.int (x / y) :: S))) : Go p l e R s m args below meth c Z own cl xs0 n0 kc ks Q xs h cells slots (mkF m pc L (.int y :: .int x :: S)) := Go.of_step K (fun s' K T locs X _ t k => by subst hq; exact XS.idiv (g := mkF m pc L (.int y :: .int x :: S)) X.here K.1 rfl (hb K.2.2.2.1 hd) rfl hy k) r
theorem Go.dup (K : Cx0 bytes maxL ret mn p meth c) (hq : pc + 1 = q) {x : Value} (hd : decode bytes pc = .ok (.dup, 1)) (hc : x.category = 1) (r : Go p l e R s m args below meth c Z own cl xs0 n0 kc ks Q xs h cells slots (mkF m q L (x :: x :: S))) : Go p l e R s m args below meth c Z own cl xs0 n0 kc ks Q xs h cells slots (mkF m pc L (x :: S)) := Go.of_step K (fun s' K T locs X _ t k => by subst hq; exact XS.dup (g := mkF m pc L (x :: S)) X.here K.1 rfl (hb K.2.2.2.1 hd) rfl hc k) r
theorem Go.dupX1 (K : Cx0 bytes maxL ret mn p meth c) (hq : pc + 1 = q) {x y : Value} (hd : decode bytes pc = .ok (.dup_x1, 1)) (hc : x.category = 1) (hc' : y.category = 1) (r : Go p l e R s m args below meth c Z own cl xs0 n0 kc ks Q xs h cells slots (mkF m q L (x :: y :: x :: S))) : Go p l e R s m args below meth c Z own cl xs0 n0 kc ks Q xs h cells slots (mkF m pc L (x :: y :: S)) := Go.of_step K (fun s' K T locs X _ t k => by subst hq; exact XS.dupX1 (g := mkF m pc L (x :: y :: S)) X.here K.1 rfl (hb K.2.2.2.1 hd) rfl hc hc' k) r
theorem Go.pop (K : Cx0 bytes maxL ret mn p meth c) (hq : pc + 1 = q) {x : Value} (hd : decode bytes pc = .ok (.pop, 1)) (hc : x.category = 1) (r : Go p l e R s m args below meth c Z own cl xs0 n0 kc ks Q xs h cells slots (mkF m q L S)) : Go p l e R s m args below meth c Z own cl xs0 n0 kc ks Q xs h cells slots (mkF m pc L (x :: S)) := Go.of_step K (fun s' K T locs X _ t k => by subst hq; exact XS.pop (g := mkF m pc L (x :: S)) X.here K.1 rfl (hb K.2.2.2.1 hd) rfl hc k) r
theorem Go.istoreN (K : Cx0 bytes maxL ret mn p meth c) (hq : pc + 1 = q) {k : Fin 4} {x : Int32} {L' : Array Slot} (hd : decode bytes pc = .ok (.istore_n k, 1)) (hl : storeLocals L k.val (.int x) = some L') (r : Go p l e R s m args below meth c Z own cl xs0 n0 kc ks Q xs h cells slots (mkF m q L' S)) : Go p l e R s m args below meth c Z own cl xs0 n0 kc ks Q xs h cells slots (mkF m pc L (.int x :: S)) := Go.of_step K (fun s' K T locs X _ t k => by subst hq; exact XS.istoreN (g := mkF m pc L (.int x :: S)) X.here K.1 rfl (hb K.2.2.2.1 hd) rfl hl k) r
theorem Go.istore (K : Cx0 bytes maxL ret mn p meth c) (hq : pc + 2 = q) {k : Nat} {x : Int32} {L' : Array Slot} (hd : decode bytes pc = .ok (.istore k, 2)) (hl : storeLocals L k (.int x) = some L') (r : Go p l e R s m args below meth c Z own cl xs0 n0 kc ks Q xs h cells slots (mkF m q L' S)) : Go p l e R s m args below meth c Z own cl xs0 n0 kc ks Q xs h cells slots (mkF m pc L (.int x :: S)) := Go.of_step K (fun s' K T locs X _ t k => by subst hq; exact XS.istore (g := mkF m pc L (.int x :: S)) X.here K.1 rfl (hb K.2.2.2.1 hd) rfl hl k) r
theorem Go.lstoreN (K : Cx0 bytes maxL ret mn p meth c) (hq : pc + 1 = q) {k : Fin 4} {x : Int64} {L' : Array Slot} (hd : decode bytes pc = .ok (.lstore_n k, 1)) (hl : storeLocals L k.val (.long x) = some L') (r : Go p l e R s m args below meth c Z own cl xs0 n0 kc ks Q xs h cells slots (mkF m q L' S)) : Go p l e R s m args below meth c Z own cl xs0 n0 kc ks Q xs h cells slots (mkF m pc L (.long x :: S)) := Go.of_step K (fun s' K T locs X _ t k => by subst hq; exact XS.lstoreN (g := mkF m pc L (.long x :: S)) X.here K.1 rfl (hb K.2.2.2.1 hd) rfl hl k) r
theorem Go.lstore (K : Cx0 bytes maxL ret mn p meth c) (hq : pc + 2 = q) {k : Nat} {x : Int64} {L' : Array Slot} (hd : decode bytes pc = .ok (.lstore k, 2)) (hl : storeLocals L k (.long x) = some L') (r : Go p l e R s m args below meth c Z own cl xs0 n0 kc ks Q xs h cells slots (mkF m q L' S)) : Go p l e R s m args below meth c Z own cl xs0 n0 kc ks Q xs h cells slots (mkF m pc L (.long x :: S)) := Go.of_step K (fun s' K T locs X _ t k => by subst hq; exact XS.lstore (g := mkF m pc L (.long x :: S)) X.here K.1 rfl (hb K.2.2.2.1 hd) rfl hl k) r
theorem Go.astoreN (K : Cx0 bytes maxL ret mn p meth c) (hq : pc + 1 = q) {k : Fin 4} {x : Value} {L' : Array Slot} (hd : decode bytes pc = .ok (.astore_n k, 1)) (hv : x.isRef = true) (hl : storeLocals L k.val x = some L') (r : Go p l e R s m args below meth c Z own cl xs0 n0 kc ks Q xs h cells slots (mkF m q L' S)) : Go p l e R s m args below meth c Z own cl xs0 n0 kc ks Q xs h cells slots (mkF m pc L (x :: S)) := Go.of_step K (fun s' K T locs X _ t k => by subst hq; exact XS.astoreN (g := mkF m pc L (x :: S)) X.here K.1 rfl (hb K.2.2.2.1 hd) rfl hv hl k) r
theorem Go.astore (K : Cx0 bytes maxL ret mn p meth c) (hq : pc + 2 = q) {k : Nat} {x : Value} {L' : Array Slot} (hd : decode bytes pc = .ok (.astore k, 2)) (hv : x.isRef = true) (hl : storeLocals L k x = some L') (r : Go p l e R s m args below meth c Z own cl xs0 n0 kc ks Q xs h cells slots (mkF m q L' S)) : Go p l e R s m args below meth c Z own cl xs0 n0 kc ks Q xs h cells slots (mkF m pc L (x :: S)) := Go.of_step K (fun s' K T locs X _ t k => by subst hq; exact XS.astore (g := mkF m pc L (x :: S)) X.here K.1 rfl (hb K.2.2.2.1 hd) rfl hv hl k) r
theorem Go.iinc (K : Cx0 bytes maxL ret mn p meth c) (hq : pc + 3 = q) {k : Nat} {cst : Int} {x y : Int32} {L' : Array Slot} (hy : Int32.ofInt cst = y) (hd : decode bytes pc = .ok (.iinc k cst, 3)) (hl0 : L[k]? = some (.val (.int x))) (hl : storeLocals L k (.int (x + y)) = some L') (r : Go p l e R s m args below meth c Z own cl xs0 n0 kc ks Q xs h cells slots (mkF m q L' S)) : Go p l e R s m args below meth c Z own cl xs0 n0 kc ks Q xs h cells slots (mkF m pc L S) := Go.of_step K (fun s' K T locs X _ t k => by subst hq hy; exact XS.iinc (g := mkF m pc L S) X.here K.1 rfl (hb K.2.2.2.1 hd) hl0 hl k) r
theorem Go.goto (K : Cx0 bytes maxL ret mn p meth c) {o : Int} (ho : 0 ≤ (pc : Int) + o) (hq : ((pc : Int) + o).toNat = q) (hd : decode bytes pc = .ok (.goto o, 3)) (r : Go p l e R s m args below meth c Z own cl xs0 n0 kc ks Q xs h cells slots (mkF m q L S)) : Go p l e R s m args below meth c Z own cl xs0 n0 kc ks Q xs h cells slots (mkF m pc L S) := Go.of_step K (fun s' K T locs X _ t k => XS.goto (g := mkF m pc L S) X.here K.1 rfl (pc0 := pc) (pc' := q) rfl (hb K.2.2.2.1 hd) ho hq k) r
theorem Go.ifY (K : Cx0 bytes maxL ret mn p meth c) {o : Int} {cd : ClassFile.Cond} {x : Int32} (ho : 0 ≤ (pc : Int) + o) (hq : ((pc : Int) + o).toNat = q) (hd : decode bytes pc = .ok (.ifCond cd o, 3)) (hc : cdP cd x 0) (r : Go p l e R s m args below meth c Z own cl xs0 n0 kc ks Q xs h cells slots (mkF m q L S)) : Go p l e R s m args below meth c Z own cl xs0 n0 kc ks Q xs h cells slots (mkF m pc L (.int x :: S)) := Go.of_step K (fun s' K T locs X _ t k => XS.ifYes (g := mkF m pc L (.int x :: S)) X.here K.1 rfl (pc0 := pc) (pc' := q) rfl (hb K.2.2.2.1 hd) rfl ((if0 _ _).trans (cd_yes hc)) ho hq k) r
theorem Go.ifN (K : Cx0 bytes maxL ret mn p meth c) {o : Int} {cd : ClassFile.Cond} {x : Int32} (hq : pc + 3 = q) (hd : decode bytes pc = .ok (.ifCond cd o, 3)) (hc : cdN cd x 0) (r : Go p l e R s m args below meth c Z own cl xs0 n0 kc ks Q xs h cells slots (mkF m q L S)) : Go p l e R s m args below meth c Z own cl xs0 n0 kc ks Q xs h cells slots (mkF m pc L (.int x :: S)) := Go.of_step K (fun s' K T locs X _ t k => by subst hq; exact XS.ifNo (g := mkF m pc L (.int x :: S)) X.here K.1 rfl (hb K.2.2.2.1 hd) rfl ((if0 _ _).trans (cd_no hc)) k) r
theorem Go.icmpY (K : Cx0 bytes maxL ret mn p meth c) {o : Int} {cd : ClassFile.Cond} {x y : Int32} (ho : 0 ≤ (pc : Int) + o) (hq : ((pc : Int) + o).toNat = q) (hd : decode bytes pc = .ok (.if_icmp cd o, 3)) (hc : cdP cd x y) (r : Go p l e R s m args below meth c Z own cl xs0 n0 kc ks Q xs h cells slots (mkF m q L S)) : Go p l e R s m args below meth c Z own cl xs0 n0 kc ks Q xs h cells slots (mkF m pc L (.int y :: .int x :: S)) := Go.of_step K (fun s' K T locs X _ t k => XS.icmpYes (g := mkF m pc L (.int y :: .int x :: S)) X.here K.1 rfl (pc0 := pc) (pc' := q) rfl (hb K.2.2.2.1 hd) rfl (cd_yes hc) ho hq k) r
theorem Go.icmpN (K : Cx0 bytes maxL ret mn p meth c) {o : Int} {cd : ClassFile.Cond} {x y : Int32} (hq : pc + 3 = q) (hd : decode bytes pc = .ok (.if_icmp cd o, 3)) (hc : cdN cd x y) (r : Go p l e R s m args below meth c Z own cl xs0 n0 kc ks Q xs h cells slots (mkF m q L S)) : Go p l e R s m args below meth c Z own cl xs0 n0 kc ks Q xs h cells slots (mkF m pc L (.int y :: .int x :: S)) := Go.of_step K (fun s' K T locs X _ t k => by subst hq; exact XS.icmpNo (g := mkF m pc L (.int y :: .int x :: S)) X.here K.1 rfl (hb K.2.2.2.1 hd) rfl (cd_no hc) k) r
theorem Go.ifc (K : Cx0 bytes maxL ret mn p meth c) {o : Int} {cd : ClassFile.Cond} {x : Int32} {q' : Nat} (ho : 0 ≤ (pc : Int) + o) (hq : ((pc : Int) + o).toNat = q) (hq' : pc + 3 = q') (hd : decode bytes pc = .ok (.ifCond cd o, 3)) (r : cdP cd x 0 → Go p l e R s m args below meth c Z own cl xs0 n0 kc ks Q xs h cells slots (mkF m q L S)) (r' : cdN cd x 0 → Go p l e R s m args below meth c Z own cl xs0 n0 kc ks Q xs h cells slots (mkF m q' L S)) : Go p l e R s m args below meth c Z own cl xs0 n0 kc ks Q xs h cells slots (mkF m pc L (.int x :: S)) :=
  (cd_em cd x 0).elim (fun hc => Go.ifY K ho hq hd hc (r hc)) (fun hc => Go.ifN K hq' hd hc (r' hc))
theorem Go.icmp (K : Cx0 bytes maxL ret mn p meth c) {o : Int} {cd : ClassFile.Cond} {x y : Int32} {q' : Nat} (ho : 0 ≤ (pc : Int) + o) (hq : ((pc : Int) + o).toNat = q) (hq' : pc + 3 = q') (hd : decode bytes pc = .ok (.if_icmp cd o, 3)) (r : cdP cd x y → Go p l e R s m args below meth c Z own cl xs0 n0 kc ks Q xs h cells slots (mkF m q L S)) (r' : cdN cd x y → Go p l e R s m args below meth c Z own cl xs0 n0 kc ks Q xs h cells slots (mkF m q' L S)) : Go p l e R s m args below meth c Z own cl xs0 n0 kc ks Q xs h cells slots (mkF m pc L (.int y :: .int x :: S)) :=
  (cd_em cd x y).elim (fun hc => Go.icmpY K ho hq hd hc (r hc)) (fun hc => Go.icmpN K hq' hd hc (r' hc))
theorem Go.ifnullY (K : Cx0 bytes maxL ret mn p meth c) {o : Int} (ho : 0 ≤ (pc : Int) + o) (hq : ((pc : Int) + o).toNat = q) (hd : decode bytes pc = .ok (.ifnull o, 3)) (r : Go p l e R s m args below meth c Z own cl xs0 n0 kc ks Q xs h cells slots (mkF m q L S)) : Go p l e R s m args below meth c Z own cl xs0 n0 kc ks Q xs h cells slots (mkF m pc L (.null :: S)) := Go.of_step K (fun s' K T locs X _ t k => XS.ifnullYes (g := mkF m pc L (.null :: S)) X.here K.1 rfl (pc0 := pc) (pc' := q) rfl (hb K.2.2.2.1 hd) rfl ho hq k) r
theorem Go.ifnullN (K : Cx0 bytes maxL ret mn p meth c) {o : Int} {b : Addr} (hq : pc + 3 = q) (hd : decode bytes pc = .ok (.ifnull o, 3)) (r : Go p l e R s m args below meth c Z own cl xs0 n0 kc ks Q xs h cells slots (mkF m q L S)) : Go p l e R s m args below meth c Z own cl xs0 n0 kc ks Q xs h cells slots (mkF m pc L (.ref b :: S)) := Go.of_step K (fun s' K T locs X _ t k => by subst hq; exact XS.ifnullNo (g := mkF m pc L (.ref b :: S)) X.here K.1 rfl (hb K.2.2.2.1 hd) rfl k) r
theorem Go.ifnonnullY (K : Cx0 bytes maxL ret mn p meth c) {o : Int} {b : Addr} (ho : 0 ≤ (pc : Int) + o) (hq : ((pc : Int) + o).toNat = q) (hd : decode bytes pc = .ok (.ifnonnull o, 3)) (r : Go p l e R s m args below meth c Z own cl xs0 n0 kc ks Q xs h cells slots (mkF m q L S)) : Go p l e R s m args below meth c Z own cl xs0 n0 kc ks Q xs h cells slots (mkF m pc L (.ref b :: S)) := Go.of_step K (fun s' K T locs X _ t k => XS.ifnonnullYes (g := mkF m pc L (.ref b :: S)) X.here K.1 rfl (pc0 := pc) (pc' := q) rfl (hb K.2.2.2.1 hd) rfl ho hq k) r
theorem Go.ifnonnullN (K : Cx0 bytes maxL ret mn p meth c) {o : Int} (hq : pc + 3 = q) (hd : decode bytes pc = .ok (.ifnonnull o, 3)) (r : Go p l e R s m args below meth c Z own cl xs0 n0 kc ks Q xs h cells slots (mkF m q L S)) : Go p l e R s m args below meth c Z own cl xs0 n0 kc ks Q xs h cells slots (mkF m pc L (.null :: S)) := Go.of_step K (fun s' K T locs X _ t k => by subst hq; exact XS.ifnonnullNo (g := mkF m pc L (.null :: S)) X.here K.1 rfl (hb K.2.2.2.1 hd) rfl k) r
theorem Go.acmp (K : Cx0 bytes maxL ret mn p meth c) {o : Int} {cd : ACond} {x y : Value} (h1 : x.isRef = true) (h2 : y.isRef = true) {same : Bool} (hs : decide (x = y) = same) (ho : 0 ≤ (pc : Int) + o) (hq : q = if acV cd same = true then ((pc : Int) + o).toNat else pc + 3) (hd : decode bytes pc = .ok (.if_acmp cd o, 3)) (r : Go p l e R s m args below meth c Z own cl xs0 n0 kc ks Q xs h cells slots (mkF m q L S)) : Go p l e R s m args below meth c Z own cl xs0 n0 kc ks Q xs h cells slots (mkF m pc L (y :: x :: S)) := Go.of_step K (fun s' K T locs X _ t k => Jvm.RoadKit.acmp (g := mkF m pc L (y :: x :: S)) X K.1 rfl h1 h2 (pc0 := pc) (pc' := q) rfl (hb K.2.2.2.1 hd) rfl hs ho hq k) r
theorem Go.getF (K : Cx0 bytes maxL ret mn p meth c) (hq : pc + 3 = q) {R0 O n d : String} {i : Nat} (w : (Cond.fieldLink own i R0 n d).before a0 Z = true) (via : Via Z R0 O n d) {a : Addr} {v : Value} (F : Fld Z h a O n d v) (hd : decode bytes pc = .ok (.getfield i, 3)) (r : Go p l e R s m args below meth c Z own cl xs0 n0 kc ks Q xs h cells slots (mkF m q L (v :: S))) : Go p l e R s m args below meth c Z own cl xs0 n0 kc ks Q xs h cells slots (mkF m pc L (.ref a :: S)) :=
  Go.of_warm K (fun s' K T locs X eT => by subst hq; exact Jvm.RoadKit.getF X K.1 K.2.1 K.2.2.1 (host := "") (Or.inl w) via eT F (g := mkF m pc L (.ref a :: S)) rfl rfl (hb K.2.2.2.1 hd)) r
theorem Go.getS (K : Cx0 bytes maxL ret mn p meth c) (hq : pc + 3 = q) {R0 O n d : String} {i : Nat} (w : (Cond.fieldLink own i R0 n d).before a0 Z = true) (via : Via Z R0 O n d) {v : Value} (F : Sta Z h O n d v) (hd : decode bytes pc = .ok (.getstatic i, 3)) (r : Go p l e R s m args below meth c Z own cl xs0 n0 kc ks Q xs h cells slots (mkF m q L (v :: S))) : Go p l e R s m args below meth c Z own cl xs0 n0 kc ks Q xs h cells slots (mkF m pc L S) :=
  Go.of_warm K (fun s' K T locs X eT => by subst hq; exact Jvm.RoadKit.getS (host := "") X K.1 K.2.1 K.2.2.1 w via eT F (g := mkF m pc L S) rfl (hb K.2.2.2.1 hd)) r
theorem Go.castY (K : Cx0 bytes maxL ret mn p meth c) (hq : pc + 3 = q) {C : String} {i : Nat} (w : (Cond.classLink own i C).before a0 Z = true) {a : Addr} (F : Ins Z h a C true) (hd : decode bytes pc = .ok (.checkcast i, 3)) (r : Go p l e R s m args below meth c Z own cl xs0 n0 kc ks Q xs h cells slots (mkF m q L (.ref a :: S))) : Go p l e R s m args below meth c Z own cl xs0 n0 kc ks Q xs h cells slots (mkF m pc L (.ref a :: S)) :=
  Go.of_warm K (fun s' K T locs X eT => by subst hq; exact Jvm.RoadKit.castY X K.1 K.2.1 K.2.2.1 w eT F (g := mkF m pc L (.ref a :: S)) rfl rfl (hb K.2.2.2.1 hd)) r
theorem Go.instY (K : Cx0 bytes maxL ret mn p meth c) (hq : pc + 3 = q) {C : String} {i : Nat} (w : (Cond.classLink own i C).before a0 Z = true) {a : Addr} (F : Ins Z h a C true) (hd : decode bytes pc = .ok (.instanceof i, 3)) (r : Go p l e R s m args below meth c Z own cl xs0 n0 kc ks Q xs h cells slots (mkF m q L (.int 1 :: S))) : Go p l e R s m args below meth c Z own cl xs0 n0 kc ks Q xs h cells slots (mkF m pc L (.ref a :: S)) :=
  Go.of_warm K (fun s' K T locs X eT => by subst hq; exact Jvm.RoadKit.instY X K.1 K.2.1 K.2.2.1 w eT F (g := mkF m pc L (.ref a :: S)) rfl rfl (hb K.2.2.2.1 hd)) r
theorem Go.instNo (K : Cx0 bytes maxL ret mn p meth c) (hq : pc + 3 = q) {C D : String} {i : Nat} (w : (Cond.classLink own i D).before a0 Z = true) {a : Addr} (E : Exa Z h a C) (F : ∃ c t, Z.vm.findClass C = some c ∧ Z.vm.findClass D = some t ∧ Z.vm.assignable c t = false) (hd : decode bytes pc = .ok (.instanceof i, 3)) (r : Go p l e R s m args below meth c Z own cl xs0 n0 kc ks Q xs h cells slots (mkF m q L (.int 0 :: S))) : Go p l e R s m args below meth c Z own cl xs0 n0 kc ks Q xs h cells slots (mkF m pc L (.ref a :: S)) :=
  Go.of_warm K (fun s' K T locs X eT => by subst hq; exact Jvm.RoadKit.instNo X K.1 K.2.1 K.2.2.1 w eT E F (g := mkF m pc L (.ref a :: S)) rfl rfl (hb K.2.2.2.1 hd)) r
theorem Go.instNull (K : Cx0 bytes maxL ret mn p meth c) (hq : pc + 3 = q) {i : Nat} (hd : decode bytes pc = .ok (.instanceof i, 3)) (r : Go p l e R s m args below meth c Z own cl xs0 n0 kc ks Q xs h cells slots (mkF m q L (.int 0 :: S))) : Go p l e R s m args below meth c Z own cl xs0 n0 kc ks Q xs h cells slots (mkF m pc L (.null :: S)) :=
  Go.of_step K (fun s' K T locs X _ t k => by subst hq; exact X.instanceofNull K.1 (g := mkF m pc L (.null :: S)) rfl rfl (hb K.2.2.2.1 hd) _ k) r
theorem Go.castNull (K : Cx0 bytes maxL ret mn p meth c) (hq : pc + 3 = q) {i : Nat} (hd : decode bytes pc = .ok (.checkcast i, 3)) (r : Go p l e R s m args below meth c Z own cl xs0 n0 kc ks Q xs h cells slots (mkF m q L (.null :: S))) : Go p l e R s m args below meth c Z own cl xs0 n0 kc ks Q xs h cells slots (mkF m pc L (.null :: S)) :=
  Go.of_step K (fun s' K T locs X _ t k => by subst hq; exact X.checkcastNull K.1 (g := mkF m pc L (.null :: S)) rfl rfl (hb K.2.2.2.1 hd) _ k) r
theorem Go.caload (K : Cx0 bytes maxL ret mn p meth c) (hq : pc + 1 = q) {a : Addr} {k : ClassId} {z j : Int32} {vs : List Value} {dv v : Value} (A : Arv Z h a k .char z vs dv) (hd : decode bytes pc = .ok (.caload, 1)) (hj : ¬ j < 0 ∧ j < z) (hv : vs.getD j.toNatClampNeg dv = v) (r : Go p l e R s m args below meth c Z own cl xs0 n0 kc ks Q xs h cells slots (mkF m q L (v :: S))) : Go p l e R s m args below meth c Z own cl xs0 n0 kc ks Q xs h cells slots (mkF m pc L (.int j :: .ref a :: S)) :=
  Go.of_step K (fun s' K T locs X eT t kk => by
    subst hq
    obtain ⟨cl, A1, A2, A3, A4, A5, A6⟩ := A
    exact X.caload K.1 (by rw [eT]; exact A1.1) (State.isArrayOf_alike K.2.1.alike A1.2.1) A1.2.2 (inb_of A3 hj) (A5.at (inb_of A3 hj) hv) (g := mkF m pc L (.int j :: .ref a :: S)) rfl rfl (hb K.2.2.2.1 hd) _ kk) r
theorem Go.baload (K : Cx0 bytes maxL ret mn p meth c) (hq : pc + 1 = q) {a : Addr} {k : ClassId} {z j : Int32} {vs : List Value} {dv v : Value} (A : Arv Z h a k .byte z vs dv) (hd : decode bytes pc = .ok (.baload, 1)) (hj : ¬ j < 0 ∧ j < z) (hv : vs.getD j.toNatClampNeg dv = v) (r : Go p l e R s m args below meth c Z own cl xs0 n0 kc ks Q xs h cells slots (mkF m q L (v :: S))) : Go p l e R s m args below meth c Z own cl xs0 n0 kc ks Q xs h cells slots (mkF m pc L (.int j :: .ref a :: S)) :=
  Go.of_step K (fun s' K T locs X eT t kk => by
    subst hq
    obtain ⟨cl, A1, A2, A3, A4, A5, A6⟩ := A
    exact X.baloadBytes K.1 (by rw [eT]; exact A1.1) (State.isArrayOf_alike K.2.1.alike A1.2.1) A1.2.2 (inb_of A3 hj) (A5.at (inb_of A3 hj) hv) (g := mkF m pc L (.int j :: .ref a :: S)) rfl rfl (hb K.2.2.2.1 hd) _ kk) r
theorem Go.aaload (K : Cx0 bytes maxL ret mn p meth c) (hq : pc + 1 = q) {a : Addr} {k : ClassId} {ty : FieldType} {z j : Int32} {vs : List Value} {dv v : Value} (A : Arv Z h a k ty z vs dv) (hty : ty.isReference = true) (hd : decode bytes pc = .ok (.aaload, 1)) (hj : ¬ j < 0 ∧ j < z) (hv : vs.getD j.toNatClampNeg dv = v) (r : Go p l e R s m args below meth c Z own cl xs0 n0 kc ks Q xs h cells slots (mkF m q L (v :: S))) : Go p l e R s m args below meth c Z own cl xs0 n0 kc ks Q xs h cells slots (mkF m pc L (.int j :: .ref a :: S)) :=
  Go.of_step K (fun s' K T locs X eT t kk => by
    subst hq
    obtain ⟨cl, A1, A2, A3, A4, A5, A6⟩ := A
    exact X.aaload K.1 (by rw [eT]; exact A1.1) (State.isArrayOf_alike K.2.1.alike A1.2.1) hty A1.2.2 (inb_of A3 hj) (A5.at (inb_of A3 hj) hv) (g := mkF m pc L (.int j :: .ref a :: S)) rfl rfl (hb K.2.2.2.1 hd) _ kk) r
theorem Go.alen (K : Cx0 bytes maxL ret mn p meth c) (hq : pc + 1 = q) {a : Addr} {k : ClassId} {ty : FieldType} {z : Int32} {vs : List Value} {dv : Value} (A : Arv Z h a k ty z vs dv) (hd : decode bytes pc = .ok (.arraylength, 1)) (r : Go p l e R s m args below meth c Z own cl xs0 n0 kc ks Q xs h cells slots (mkF m q L (.int z :: S))) : Go p l e R s m args below meth c Z own cl xs0 n0 kc ks Q xs h cells slots (mkF m pc L (.ref a :: S)) :=
  Go.of_step K (fun s' K T locs X eT t kk => by
    subst hq
    obtain ⟨cl, A1, A2, A3, A4, A5, A6⟩ := A
    refine X.arraylength K.1 (by rw [eT]; exact A1.1) (State.isArrayOf_alike K.2.1.alike A1.2.1) (g := mkF m pc L (.ref a :: S)) rfl rfl (hb K.2.2.2.1 hd) _ ?_
    rw [len_of A3 A4]; exact kk) r
theorem Go.initO (K : Cx0 bytes maxL ret mn p meth c) (hq : pc + 3 = q) {i : Nat} (w1 : (Cond.methodLink own i Lib.objectInit).before a0 Z = true) (w2 : (Cond.instanceMethod Lib.objectInit).before a0 Z = true) (w3 : (Cond.code Lib.objectInit ⟨#[0xb1]⟩ 1 none).before a0 Z = true) {a : Addr} (hsz : L.size = maxL) (hd : decode bytes pc = .ok (.invokespecial i, 3)) (hf : 1 ≤ R.frames) {W : Nat} (hW : (S.map fun v => v.category).sum ≤ W) (hl : W + 12 ≤ R.locals)
    (r : Go p l e R s m args below meth c Z own cl xs0 n0 kc ks Q xs h cells slots (mkF m q L S)) : Go p l e R s m args below meth c Z own cl xs0 n0 kc ks Q xs h cells slots (mkF m pc L (.ref a :: S)) :=
  Go.of_warm K (fun s' K T locs X eT => by subst hq; exact Jvm.RoadKit.initO X K.1 K.2.1 K.2.2.1 w1 w2 w3 eT (g := mkF m pc L (.ref a :: S)) rfl (hsz.trans K.2.2.2.2.1.symm) rfl (hb K.2.2.2.1 hd) hf (W := W) (by show 2 * 0 + _ ≤ _; omega) hl) r
/-! ends -/
theorem Go.end_ {f : JFrame} (K : Cx0 bytes maxL ret mn p meth c) {v : Option Value} (hv : ret = none → v = none) (hk : cells ≤ kc) (hs : slots ≤ ks) (hx : ∀ x ∈ xs0, x ∈ xs) (hQ : Q v h)
    (st : ∀ s', Cx Z own bytes maxL ret mn p s' m meth c → ∀ T locs, Stand p l e R s' m args below meth c T locs cells slots → ∀ fs, (∀ (f : JFrame) (acts : List Action), f.method = m → f.locked = none → f.entered = [] → (doReturn e (T.setTop f) acts v).1 = T.setFrames fs) → Steps p.tables e below (T.setTop f) (T.setFrames fs)) : Go p l e R s m args below meth c Z own cl xs0 n0 kc ks Q xs h cells slots f := fun T locs vm0 k0 X hS hkk hZ ho eT N H => by
  obtain ⟨fs, hr, hrun, hended, e1, e2, e3, e4⟩ := X.leaveW hS (by rw [eT]; exact hkk) (v := v) (fun q => hv (K.2.2.2.1.symm.trans q)) K.2.2.2.2.1
  exact ⟨_, _, st (s.setVm vm0) (K.at hZ ho) T locs X fs hr, hrun, hended, v, locs, rfl, ⟨by show Q v T.heap; rw [eT]; exact hQ, by show Lits Z cl xs0 T.vm T.heap; rw [eT]; exact (H.step (s := s.setVm vm0) rfl X.warmed.wide (Or.inl X.warmed.interned_eq)).sub hx, N⟩, e1, e2, e3, e4.mono hk hs⟩
theorem Go.retV (K : Cx0 bytes maxL none mn p meth c) (hd : decode bytes pc = .ok (.return_, 1)) (hk : cells ≤ kc) (hs : slots ≤ ks) (hx : ∀ x ∈ xs0, x ∈ xs) (hQ : Q none h) : Go p l e R s m args below meth c Z own cl xs0 n0 kc ks Q xs h cells slots (mkF m pc L []) :=
  Go.end_ K (fun _ => rfl) hk hs hx hQ fun s' K T locs X fs hr => X.returnOut K.1 K.2.2.2.2.2.1 (hb K.2.2.2.1 hd) hr
theorem Go.retN {t : FieldType} {z : Int32} (K : Cx0 bytes maxL (some t) mn p meth c) (ht : t = .boolean ∨ t = .byte ∨ t = .char ∨ t = .short) (hd : decode bytes pc = .ok (.ireturn, 1)) (hk : cells ≤ kc) (hs : slots ≤ ks) (hx : ∀ x ∈ xs0, x ∈ xs) (hQ : Q (some (.int (nar t z))) h) : Go p l e R s m args below meth c Z own cl xs0 n0 kc ks Q xs h cells slots (mkF m pc L (.int z :: S)) :=
  Go.end_ K (fun q => by cases q) hk hs hx hQ fun s' K T locs X fs hr => Jvm.RoadKit.retN X K.1 K.2.2.2.2.2.1 ht (hb K.2.2.2.1 hd) hr
theorem Go.retI {z : Int32} (K : Cx0 bytes maxL (some .int) mn p meth c) (hd : decode bytes pc = .ok (.ireturn, 1)) (hk : cells ≤ kc) (hs : slots ≤ ks) (hx : ∀ x ∈ xs0, x ∈ xs) (hQ : Q (some (.int z)) h) : Go p l e R s m args below meth c Z own cl xs0 n0 kc ks Q xs h cells slots (mkF m pc L [.int z]) :=
  Go.end_ K (fun q => by cases q) hk hs hx hQ fun s' K T locs X fs hr => X.ireturnOut K.1 K.2.2.2.2.2.1 rfl (Or.inl rfl) (hb K.2.2.2.1 hd) hr
theorem Go.retA {t : FieldType} {w : Value} (K : Cx0 bytes maxL (some t) mn p meth c) (ht : t.isReference = true) (hw : w.isRef = true) (hd : decode bytes pc = .ok (.areturn, 1)) (hk : cells ≤ kc) (hs : slots ≤ ks) (hx : ∀ x ∈ xs0, x ∈ xs) (hQ : Q (some w) h) : Go p l e R s m args below meth c Z own cl xs0 n0 kc ks Q xs h cells slots (mkF m pc L [w]) :=
  Go.end_ K (fun q => by cases q) hk hs hx hQ fun s' K T locs X fs hr => X.areturnOut K.1 hw K.2.2.2.2.2.1 ht (hb K.2.2.2.1 hd) hr
theorem Go.retJ {z : Int64} (K : Cx0 bytes maxL (some .long) mn p meth c) (hd : decode bytes pc = .ok (.lreturn, 1)) (hk : cells ≤ kc) (hs : slots ≤ ks) (hx : ∀ x ∈ xs0, x ∈ xs) (hQ : Q (some (.long z)) h) : Go p l e R s m args below meth c Z own cl xs0 n0 kc ks Q xs h cells slots (mkF m pc L [.long z]) :=
  Go.end_ K (fun q => by cases q) hk hs hx hQ fun s' K T locs X fs hr => X.lreturnOut K.1 K.2.2.2.2.2.1 (hb K.2.2.2.1 hd) hr
/-! the heap -/
theorem Go.putF (K : Cx0 bytes maxL ret mn p meth c) (hq : pc + 3 = q) {R0 O n d C : String} {i kk : Nat} {ty : FieldType} (w : (Cond.fieldLink own i R0 n d).before a0 Z = true) (via : Via Z R0 O n d) {a : Addr} {v old : Value} (F : Fld Z h a O n d old) (E : Exa Z h a C) (Ly : (Cond.lays C O n d).before a0 Z = true ∨ ((Cond.laysFinal C O n d).before a0 Z = true ∧ own = O ∧ mn = "<init>")) (wi : (Cond.instantiable C kk).before a0 Z = true)
    (hty : parseFieldDescriptor d = some ty) (hn : narrow ty v = v) (hf : fits ty v = true) (hd : decode bytes pc = .ok (.putfield i, 3)) (ha : n0 ≤ a) (hax : a ∈ xs) (r : ∀ h', Wr h h' a (Jvm.RoadKit.slotOf Z O n d) v → Fld Z h' a O n d v → Exa Z h' a C → Go p l e R s m args below meth c Z own cl xs0 n0 kc ks Q xs h' cells slots (mkF m q L S)) : Go p l e R s m args below meth c Z own cl xs0 n0 kc ks Q xs h cells slots (mkF m pc L (v :: .ref a :: S)) :=
  Go.of_heap (cells' := cells) (slots' := slots) K fun s' K T locs X eT N => by
    subst hq
    obtain ⟨T', h', X', eT', W, st⟩ := Jvm.RoadKit.putF X K.1 K.2.1 K.2.2.1 (host := "") (Or.inl w) via eT F E (Ly.imp id fun z => ⟨z.1, z.2.1, K.2.2.2.2.2.2.2.trans z.2.2⟩) wi hty hn hf (g := mkF m pc L (v :: .ref a :: S)) rfl rfl (hb K.2.2.2.1 hd)
    exact ⟨T', h', _, _, xs, X', eT', Nat.le_of_eq W.size.symm, Fr.snoc X' N ha, fun vm H => H.wr W hax, st, r h' W (F.same W) (E.wr W)⟩
theorem Go.putFN (K : Cx0 bytes maxL ret mn p meth c) (hq : pc + 3 = q) {R0 O n d C : String} {i kk : Nat} {ty : FieldType} (w : (Cond.fieldLink own i R0 n d).before a0 Z = true) (via : Via Z R0 O n d) {a : Addr} {v v' old : Value} (F : Fld Z h a O n d old) (E : Exa Z h a C) (Ly : (Cond.lays C O n d).before a0 Z = true ∨ ((Cond.laysFinal C O n d).before a0 Z = true ∧ own = O ∧ mn = "<init>")) (wi : (Cond.instantiable C kk).before a0 Z = true)
    (hty : parseFieldDescriptor d = some ty) (hn : narrow ty v = v') (hf : fits ty v' = true) (hd : decode bytes pc = .ok (.putfield i, 3)) (ha : n0 ≤ a) (hax : a ∈ xs) (r : ∀ h', Wr h h' a (Jvm.RoadKit.slotOf Z O n d) v' → Fld Z h' a O n d v' → Exa Z h' a C → Go p l e R s m args below meth c Z own cl xs0 n0 kc ks Q xs h' cells slots (mkF m q L S)) : Go p l e R s m args below meth c Z own cl xs0 n0 kc ks Q xs h cells slots (mkF m pc L (v :: .ref a :: S)) :=
  Go.of_heap (cells' := cells) (slots' := slots) K fun s' K T locs X eT N => by
    subst hq
    obtain ⟨T', h', X', eT', W, st⟩ := Jvm.RoadKit.putFN X K.1 K.2.1 K.2.2.1 w via eT F E (Ly.imp id fun z => ⟨z.1, z.2.1, K.2.2.2.2.2.2.2.trans z.2.2⟩) wi hty hn hf (g := mkF m pc L (v :: .ref a :: S)) rfl rfl (hb K.2.2.2.1 hd)
    exact ⟨T', h', _, _, xs, X', eT', Nat.le_of_eq W.size.symm, Fr.snoc X' N ha, fun vm H => H.wr W hax, st, r h' W (F.same W) (E.wr W)⟩
theorem Go.new (K : Cx0 bytes maxL ret mn p meth c) (hq : pc + 3 = q) {C : String} {i k : Nat} {cells' slots' : Nat} (w : (Cond.classLink own i C).before a0 Z = true) (wi : (Cond.instantiable C k).before a0 Z = true) (wz : (Cond.initialized C).before a0 Z = true) (hd : decode bytes pc = .ok (.new i, 3)) (hc : cells + 1 = cells') (hs : slots + k = slots') (hc' : cells' ≤ R.cells) (hs' : slots' ≤ R.slots)
    (r : ∀ h' a, a = h.size → Ext h h' → Exa Z h' a C → (∀ {O nm d : String} {ty : FieldType}, Laid Z a0 C O nm d → parseFieldDescriptor d = some ty → Fld Z h' a O nm d (defaultValue ty)) → Go p l e R s m args below meth c Z own cl xs0 n0 kc ks Q (a :: xs) h' cells' slots' (mkF m q L (.ref a :: S))) : Go p l e R s m args below meth c Z own cl xs0 n0 kc ks Q xs h cells slots (mkF m pc L S) :=
  Go.of_heap (cells' := cells') (slots' := slots') K fun s' K T locs X eT N => by
    subst hq hc hs
    obtain ⟨T', h', X', eT', E, A, D, -, st⟩ := newO X K.1 K.2.1 K.2.2.1 w wi wz eT (g := mkF m pc L S) rfl (hb K.2.2.2.1 hd) hc' hs'
    exact ⟨T', h', _, _, h.size :: xs, X', eT', E.1, N, fun vm H => H.cons (Nat.le_refl _) E A.lt, st, r h' _ rfl E A D⟩
theorem Go.newarr (K : Cx0 bytes maxL ret mn p meth c) (hq : pc + 2 = q) {aty : ArrayType} {z : Int32} {cap cells' slots' : Nat} (w : (Cond.arrayClass (newarray.typeOf aty)).before a0 Z = true) (hd : decode bytes pc = .ok (.newarray aty, 2)) (hz : ¬ z < 0) (hcap : z.toNatClampNeg ≤ cap) (hb8 : cap * 8 ≤ 536870912) (hc : cells + 1 = cells') (hs : slots + cap = slots') (hc' : cells' ≤ R.cells) (hs' : slots' ≤ R.slots)
    (r : ∀ h' a k, a = h.size → Ext h h' → Arv Z h' a k (newarray.typeOf aty) z (List.replicate z.toNatClampNeg (defaultValue (newarray.typeOf aty))) (defaultValue (newarray.typeOf aty)) → Go p l e R s m args below meth c Z own cl xs0 n0 kc ks Q (a :: xs) h' cells' slots' (mkF m q L (.ref a :: S))) : Go p l e R s m args below meth c Z own cl xs0 n0 kc ks Q xs h cells slots (mkF m pc L (.int z :: S)) :=
  Go.of_heap (cells' := cells') (slots' := slots') K fun s' K T locs X eT N => by
    subst hq hc hs
    obtain ⟨T', h', cA, X', eT', E, A, st⟩ := newP X K.1 K.2.1 w eT (g := mkF m pc L (.int z :: S)) rfl (hb K.2.2.2.1 hd) rfl hz hcap hb8 hc' hs'
    exact ⟨T', h', _, _, h.size :: xs, X', eT', E.1, N, fun vm H => H.cons (Nat.le_refl _) E A.lt, st, r h' _ cA rfl E ((Arv.new A hz).pad fun i => by simpa using pad_rep [] (defaultValue (newarray.typeOf aty)) z.toNatClampNeg i)⟩
theorem Go.castore (K : Cx0 bytes maxL ret mn p meth c) (hq : pc + 1 = q) {a : Addr} {k : ClassId} {z j x : Int32} {vs : List Value} {dv : Value} (A : Arv Z h a k .char z vs dv) {i : Nat} (hd : decode bytes pc = .ok (.castore, 1)) (hj : ¬ j < 0 ∧ j < z) (hi : j.toNatClampNeg = i) (hl : i < vs.length) (ha : n0 ≤ a) (hax : a ∈ xs)
    (r : ∀ h', Wr h h' a i (.int (nar .char x)) → Arv Z h' a k .char z (vs.set i (.int (nar .char x))) dv → Go p l e R s m args below meth c Z own cl xs0 n0 kc ks Q xs h' cells slots (mkF m q L S)) : Go p l e R s m args below meth c Z own cl xs0 n0 kc ks Q xs h cells slots (mkF m pc L (.int x :: .int j :: .ref a :: S)) :=
  Go.of_heap (cells' := cells) (slots' := slots) K fun s' K T locs X eT N => by
    subst hq
    obtain ⟨ce, A1, A2, A3, A4, A5, A6⟩ := A
    obtain ⟨T', h', X', eT', W, st⟩ := stC X K.1 K.2.1 eT A1 (j := j) (x := x) (inb_of A3 hj) (g := mkF m pc L (.int x :: .int j :: .ref a :: S)) rfl rfl (hb K.2.2.2.1 hd)
    exact ⟨T', h', _, _, xs, X', eT', Nat.le_of_eq W.size.symm, Fr.snoc X' N ha, fun vm H => H.wr W hax, st, r h' (hi ▸ W) (Arv.set A1 A2 A3 A4 A5 A6 (fits_nar_char _) W i hi hl)⟩
theorem Go.bastore (K : Cx0 bytes maxL ret mn p meth c) (hq : pc + 1 = q) {a : Addr} {k : ClassId} {z j x : Int32} {vs : List Value} {dv : Value} (A : Arv Z h a k .byte z vs dv) {i : Nat} (hd : decode bytes pc = .ok (.bastore, 1)) (hj : ¬ j < 0 ∧ j < z) (hi : j.toNatClampNeg = i) (hl : i < vs.length) (ha : n0 ≤ a) (hax : a ∈ xs)
    (r : ∀ h', Wr h h' a i (.int (nar .byte x)) → Arv Z h' a k .byte z (vs.set i (.int (nar .byte x))) dv → Go p l e R s m args below meth c Z own cl xs0 n0 kc ks Q xs h' cells slots (mkF m q L S)) : Go p l e R s m args below meth c Z own cl xs0 n0 kc ks Q xs h cells slots (mkF m pc L (.int x :: .int j :: .ref a :: S)) :=
  Go.of_heap (cells' := cells) (slots' := slots) K fun s' K T locs X eT N => by
    subst hq
    obtain ⟨ce, A1, A2, A3, A4, A5, A6⟩ := A
    obtain ⟨T', h', X', eT', W, st⟩ := stB X K.1 K.2.1 eT A1 (j := j) (x := x) (inb_of A3 hj) (g := mkF m pc L (.int x :: .int j :: .ref a :: S)) rfl rfl (hb K.2.2.2.1 hd)
    exact ⟨T', h', _, _, xs, X', eT', Nat.le_of_eq W.size.symm, Fr.snoc X' N ha, fun vm H => H.wr W hax, st, r h' (hi ▸ W) (Arv.set A1 A2 A3 A4 A5 A6 (fits_nar_byte _) W i hi hl)⟩
/-- the walk's start moved up to the heap at hand: nothing written yet, nothing made yet, as much room as is left -/
theorem rebase {T : State} {locs : List Loc} (X : Stand p l e R s m args below meth c T locs cells slots) (hc : cells ≤ R.cells) (hs : slots ≤ R.slots) :
    Stand p l e { R with cells := R.cells - cells, slots := R.slots - slots } { s with heap := T.heap, slotsUsed := T.slotsUsed } m args below meth c T [] 0 0 := by
  have hF : ({ s with heap := T.heap, slotsUsed := T.slotsUsed } : State).frames = .invoking m args :: below := X.frames
  have hm' : ({ s with heap := T.heap, slotsUsed := T.slotsUsed } : State).vm.method? m = some meth := X.method
  have hU : ({ s with heap := T.heap, slotsUsed := T.slotsUsed } : State).localsInUse = s.localsInUse := by
    rw [State.localsInUse_invoking hF hm' X.code, State.localsInUse_invoking X.frames X.method X.code]
  have h1 := X.heapSize
  have h2 := X.used
  have hroom : ({ s with heap := T.heap, slotsUsed := T.slotsUsed } : State).hasRoom e.platform { R with cells := R.cells - cells, slots := R.slots - slots } = true := by
    have hr := X.room
    have hb := X.book
    simp only [State.hasRoom, Bool.and_eq_true, decide_eq_true_eq] at hr ⊢
    rw [hU]
    obtain ⟨⟨⟨⟨r1, r2⟩, r3⟩, r4⟩, r5⟩ := hr
    exact ⟨⟨⟨⟨r1, r2⟩, by show T.heap.size + (R.cells - cells) ≤ _; omega⟩, by show T.slotsUsed + (R.slots - slots) ≤ _; omega⟩, hb⟩
  have hears : ({ s with heap := T.heap, slotsUsed := T.slotsUsed } : State).hears m below = true := X.hears
  obtain ⟨q1, -⟩ := X.same
  refine ⟨X.admits, X.cas, X.clock, hF, hroom, hears, hm', X.code, X.here, X.tail, X.warmed, X.limits, X.bytes, ?_, Nat.le_refl _, Nat.le_refl _, ?_, ?_, fun a c' hc' => ⟨c', hc', rfl, rfl, fun _ _ => rfl⟩⟩
  · exact q1
  · show T.slotsUsed = T.slotsUsed + ((T.heap.toList.drop T.heap.size).map (·.slots.size)).sum
    rw [List.drop_eq_nil_of_le (by simp)]; simp
  · show ((T.heap.toList.drop T.heap.size).map (·.slots.size)).sum ≤ 0
    rw [List.drop_eq_nil_of_le (by simp)]; simp
theorem thread_of {fr : Frame} {r : List Frame} (h : s.frames = fr :: r) : ∃ t, s.threads[s.cur]? = some t := by
  cases q : s.threads[s.cur]? with
  | some t => exact ⟨t, rfl⟩
  | none => simp [State.frames, q] at h
/-- and back again -/
theorem unbase {T T' : State} {locs : List Loc} {vm' : Vm} {k n : Nat} {R' : Room} (X : Stand p l e R s m args below meth c T locs cells slots) (hW : s.Warmed39 vm') (hv : T'.vm = vm') (Y : Stand p l e R' (({ s with heap := T.heap, slotsUsed := T.slotsUsed } : State).setVm vm') m args below meth c T' [] k n) :
    Stand p l e R (s.setVm vm') m args below meth c T' locs (cells + k) (slots + n) := by
  have Xr := X.retabled hW
  have e1 : (s.setVm vm').sameButNew (({ s with heap := T.heap, slotsUsed := T.slotsUsed } : State).setVm vm') locs cells slots := by
    obtain ⟨t, ht⟩ := thread_of X.frames
    obtain ⟨-, q2, q3, q4, q5, q6⟩ := X.same
    refine ⟨?_, q2, q3, q4, q5, q6⟩
    show (({ s with heap := T.heap, slotsUsed := T.slotsUsed } : State).setVm vm') = ({ (s.setVm vm').setFrames (s.setVm vm').frames with heap := T.heap, slotsUsed := T.slotsUsed } : State)
    rw [State.setFrames_self (s := s.setVm vm') ht]
    rfl
  have e2 := e1.trans Y.same
  rw [List.append_nil] at e2
  exact ⟨Xr.admits, Xr.cas, Xr.clock, Xr.frames, Xr.room, Xr.hears, Xr.method, Xr.code, Y.here, Y.tail, by rw [hv]; exact State.WarmedH.refl (s.setVm vm'), Y.limits, Y.bytes, e2⟩
/-- ldc of an entry that is resolved -/
theorem ldc_res {T : State} {locs : List Loc} {vm0 : Vm} {i n : Nat} {a : Addr} {text : String} {units : Array UInt16} (X : Stand p l e R (s.setVm vm0) m args below meth c T locs cells slots) (hx : p.tables.exec = Jvm.exec) (hZ : Z.Warmed39 vm0) (ho : vm0.findClass own = some m.cls) (w : (Cond.stringLink own i text).before a0 Z = true) {k : Class} (hkk : vm0.classes[m.cls]? = some k) (h0 : k.resolved[i]? = some (some (.string a))) (hd : decode c.code pc = .ok (.ldc i, 2)) (hl : Lt Z T.heap xs a units) (H : Lits Z cl xs vm0 T.heap) :
    ∃ (a : Addr) (T' : State), Stand p l e R (s.setVm T'.vm) m args below meth c T' locs (cells + 2) (slots + (n + 4)) ∧ (s.setVm vm0).Since T'.vm T'.heap.size ∧ Ext T.heap T'.heap ∧ Lt Z T'.heap xs a units ∧ Lits Z cl xs T'.vm T'.heap ∧ ∀ t, Steps p.tables e below (T'.setTop (mkF m (pc + 2) L (.ref a :: S))) t → Steps p.tables e below (T.setTop (mkF m pc L S)) t := by
  have hlit : RoadKit.Lit (s.setVm vm0) own i a := by simp [RoadKit.Lit, State.resolvedAt?, State.setVm, ho, hkk, h0]
  exact ⟨a, T, (X.mono (Nat.le_add_right _ _) (Nat.le_add_right _ _)).retabled X.warmed.wide, X.warmed.since _, ⟨Nat.le_refl _, fun _ _ q => q⟩, hl, H.step (s := s.setVm vm0) rfl X.warmed.wide (Or.inl X.warmed.interned_eq), ldcAgain X hx hZ ho w hlit (g := mkF m pc L S) rfl hd⟩
/-- ldc of an entry that is open, its text interned -/
theorem ldc_found {T : State} {locs : List Loc} {vm0 : Vm} {i j n : Nat} {a : Addr} {text : String} {units : Array UInt16} (X : Stand p l e R (s.setVm vm0) m args below meth c T locs cells slots) (hx : p.tables.exec = Jvm.exec) {k : Class} {cf : ClassFile} (hkk : vm0.classes[m.cls]? = some k) (hcf : k.cf = some cf) (hcp : cf.constantPool[i]? = some (.string j)) (hu : cf.constantPool[j]? = some (.utf8 units)) (hnm : namesOf? cf.constantPool i = some (.string text)) (h0 : k.resolved[i]? = some none) (hf : vm0.interned.find? (fun p => p.1 == units) = some (units, a)) (hd : decode c.code pc = .ok (.ldc i, 2)) (hl : Lt Z T.heap xs a units) (H : Lits Z cl xs vm0 T.heap) :
    ∃ (a : Addr) (T' : State), Stand p l e R (s.setVm T'.vm) m args below meth c T' locs (cells + 2) (slots + (n + 4)) ∧ (s.setVm vm0).Since T'.vm T'.heap.size ∧ Ext T.heap T'.heap ∧ Lt Z T'.heap xs a units ∧ Lits Z cl xs T'.vm T'.heap ∧ ∀ t, Steps p.tables e below (T'.setTop (mkF m (pc + 2) L (.ref a :: S))) t → Steps p.tables e below (T.setTop (mkF m pc L S)) t := by
  obtain ⟨k', hk', ek, -, hent, -⟩ := X.warmed.2.2 m.cls k hkk
  have hcf' : k'.cf = some cf := by rw [ek]; exact hcf
  have hif : T.vm.interned.find? (fun p => p.1 == units) = some (units, a) := by rw [X.warmed.interned_eq]; exact hf
  rcases hent i with e0 | ⟨-, r, -, hr⟩
  · have hop : k'.resolved[i]? = some none := e0.trans h0
    have hW : (s.setVm vm0).Warmed39 (T.vm.noted m.cls i (.string a)) := X.warmed.wide.notedString (s := s.setVm vm0) hkk (Or.inl h0) (by rw [hcf]; exact hnm) (by rw [hcf]; exact hcp) (by rw [hcf]; simp [ConstantPool.utf8?, hu]) hif
    have hni : (T.vm.noted m.cls i (.string a)).interned = vm0.interned := X.warmed.interned_eq
    refine ⟨a, T.setVm (T.vm.noted m.cls i (.string a)), (X.mono (Nat.le_add_right _ _) (Nat.le_add_right _ _)).retabled hW, ⟨hW, fun q pr hq hp => ?_⟩, ⟨Nat.le_refl _, fun _ _ q => q⟩, hl, H.step (s := s.setVm vm0) rfl hW (Or.inl hni), fun t hrest => ?_⟩
    · have hp' : (T.vm.noted m.cls i (.string a)).interned[q]? = some pr := hp
      rw [hni] at hp'
      exact absurd (Array.getElem?_eq_some_iff.mp hp').1 (Nat.not_lt.mpr hq)
    · show Steps p.tables e below (T.setTop { method := m, pc := pc, locals := L, stack := S, locked := none }) t
      jvm_step X.here [hx, hd, ldc.wp_string_found (e := e) (s := T) (f := mkF m pc L S) X.here.top hk' hcf' hcp hu hop hif]
      exact hrest
  · exfalso
    cases r <;> simp [State.rightAt, State.setVm, hkk, hcf, hnm] at hr
theorem atoms_at {s' : State} (hZ : Z.Warmed39 s'.vm) (wS : ∀ a ∈ Bundle.stringAtoms, a.before a0 Z = true) : ∀ a ∈ Bundle.stringAtoms, a.before args s' = true := fun d hd => by
  have z := wS d hd
  simp only [Bundle.stringAtoms, List.mem_cons, List.not_mem_nil, or_false] at hd
  rcases hd with rfl | rfl | rfl | rfl | rfl | rfl | rfl
  · exact mv hZ z
  · exact mv hZ z
  · exact mvA hZ z
  · exact mv hZ z
  · exact mv hZ z
  · exact mv hZ z
  · exact mv hZ z
/-- ldc of an entry that is open, its text not yet interned -/
theorem ldc_new {T : State} {locs : List Loc} {vm0 : Vm} {i j n : Nat} {text : String} {units : Array UInt16} (X : Stand p l e R (s.setVm vm0) m args below meth c T locs cells slots) (hx : p.tables.exec = Jvm.exec) (ho : vm0.findClass own = some m.cls) (w : (Cond.stringLink own i text).before a0 Z = true) (wS : ∀ a ∈ Bundle.stringAtoms, a.before a0 Z = true) {k : Class} {cf : ClassFile} (hkk : vm0.classes[m.cls]? = some k) (hcf : k.cf = some cf) (hcp : cf.constantPool[i]? = some (.string j)) (hu : cf.constantPool[j]? = some (.utf8 units)) (hdec : utf16ToString? units = some text) (h0 : k.resolved[i]? = some none) (hf : vm0.interned.find? (fun p => p.1 == units) = none) (hd : decode c.code pc = .ok (.ldc i, 2)) (hn : 4 * text.toList.length ≤ n) (hbig : n ≤ 536870912) (hc' : cells + 2 ≤ R.cells) (hs' : slots + (n + 4) ≤ R.slots) (H : Lits Z cl xs vm0 T.heap) (hZ : Z.Warmed39 vm0) (hlat : ∀ c ∈ text.toList, c.toNat < 256) :
    ∃ (a : Addr) (T' : State), Stand p l e R (s.setVm T'.vm) m args below meth c T' locs (cells + 2) (slots + (n + 4)) ∧ (s.setVm vm0).Since T'.vm T'.heap.size ∧ Ext T.heap T'.heap ∧ Lt Z T'.heap xs a units ∧ Lits Z cl xs T'.vm T'.heap ∧ ∀ t, Steps p.tables e below (T'.setTop (mkF m (pc + 2) L (.ref a :: S))) t → Steps p.tables e below (T.setTop (mkF m pc L S)) t := by
  have held : ConstHeldL ({ s.setVm vm0 with heap := T.heap, slotsUsed := T.slotsUsed } : State) own i := fun c' k' cf' j' us' b q1 q2 q3 q4 q5 q6 => by
    cases (show vm0.findClass own = some c' from q1).symm.trans ho
    cases (show vm0.classes[m.cls]? = some k' from q2).symm.trans hkk
    cases hcf.symm.trans q3
    cases hcp.symm.trans q4
    cases hu.symm.trans q5
    rcases q6 with q6 | ⟨-, q6⟩
    · cases h0.symm.trans q6
    · cases hf.symm.trans q6
  have Y := rebase X (by omega) (by omega)
  obtain ⟨a, T', Y', hS', ⟨kk, hkk', hrr⟩, hb, -, hint, ⟨us, hus, q, cS, hqa, hsl, hkS, hB, hbyt, hloc⟩, st⟩ := Y.ldcColdF (fun b ce hbc => hbc) hx (own := own) ho (mvS (s := { s with heap := T.heap, slotsUsed := T.slotsUsed }) hZ w) (atoms_at hZ wS) held (fun us hu' => Jvm.ClassFile.lat_of_text hu' hlat) (g := mkF m pc L S) rfl hd hn hbig (by show 0 + 2 ≤ R.cells - cells; omega) (by show 0 + (n + 4) ≤ R.slots - slots; omega)
  simp only [Nat.zero_add] at Y'
  have hW : (s.setVm vm0).Warmed39 T'.vm := State.Warmed39.of_rootvm rfl hS'.1
  have E : Ext T.heap T'.heap := ext_of hb
  have hTi : T.vm.interned = vm0.interned := X.warmed.interned_eq
  have hbk : (s.setVm vm0).Since T'.vm T'.heap.size := ⟨hW, fun jj pr hj hp => by
    obtain ⟨z1, z2⟩ := hS'.2 jj pr hj hp
    exact ⟨Nat.le_trans X.same.2.1 z1, z2⟩⟩
  have hlu := Jvm.ClassFile.lat_of_text hus hlat
  have hueq : us = units := by
    have z := (Jvm.ClassFile.units_of_text hus hlat).trans (Jvm.ClassFile.units_of_text hdec hlat).symm
    exact Array.toList_inj.mp z
  subst hueq
  subst hqa
  -- the pair that the intern table has won is this very text's, at this very object
  have hpush : T'.vm.interned = vm0.interned.push (us, q.sa) := by
    have hfd : T'.vm.interned.find? (fun p => p.1 == us) = some (us, q.sa) := by
      obtain ⟨k2, e1, e2, e3, e4, -⟩ := hW.2.2.2 m.cls k hkk
      cases e1.symm.trans hkk'
      rcases e4 i with e0 | ⟨-, r, e5, hr | ⟨a', tx, si, us', rfl, -, q3, q4, q5⟩⟩
      · cases (e0.symm.trans hrr).symm.trans h0
      · cases e5.symm.trans hrr
        simp [State.rightAt, State.setVm, hkk, hcf] at hr
      · cases e5.symm.trans hrr
        rw [hcf] at q3 q4
        have e7 : si = j := by have z := q3.symm.trans hcp; simpa using z
        subst e7
        have e8 : us' = us := by simpa [ConstantPool.utf8?, hu] using q4.symm
        subst e8
        exact q5
    rcases hint with hint | ⟨u2, a2, -, hint⟩
    · rw [hint, hTi, hf] at hfd; cases hfd
    · rw [hint, hTi, Array.find?_push, hf] at hfd
      simp only [Option.none_or] at hfd
      split at hfd
      · cases hfd; rw [hint, hTi]
      · cases hfd
  have hge : T.heap.size ≤ q.sa := by
    have z := hS'.2 vm0.interned.size (us, q.sa) (Nat.le_refl _) (by rw [hpush]; simp)
    exact z.1
  have hge2 : T.heap.size ≤ q.sd := by
    rcases hloc with ⟨z1, -⟩ | ⟨-, z2⟩
    · exact absurd hge (Nat.not_le.mpr z1)
    · exact z2
  have hl : Lt Z T'.heap xs q.sa us := lt_core (hZ.alike.trans hW.alike) hlu hsl hkS hB hbyt (fun z => absurd hge (Nat.not_le.mpr (H.1 _ z))) (fun z => absurd hge2 (Nat.not_le.mpr (H.1 _ z)))
  exact ⟨q.sa, T', unbase (s := s.setVm vm0) X hW rfl Y', hbk, E, hl, (H.ext E).step (s := s.setVm vm0) rfl hW (Or.inr ⟨us, q.sa, hpush, hl⟩), st⟩
/-- ldc of a String constant -/
theorem Go.ldcS (K : Cx0 bytes maxL ret mn p meth c) (hq : pc + 2 = q) {text : String} {i : Nat} (hin : (own, i) ∈ cl) (w : (Cond.stringLink own i text).before a0 Z = true) (wS : ∀ a ∈ Bundle.stringAtoms, a.before a0 Z = true) (hlat : ∀ c ∈ text.toList, c.toNat < 256) (hd : decode bytes pc = .ok (.ldc i, 2)) {n cells' slots' : Nat} (hn : 4 * text.toList.length ≤ n) (hbig : n ≤ 536870912) (hc : cells + 2 = cells') (hs : slots + (n + 4) = slots') (hc' : cells' ≤ R.cells) (hs' : slots' ≤ R.slots)
    (r : ∀ h' a, Ext h h' → (∃ units : Array UInt16, utf16ToString? units = some text ∧ Lt Z h' xs a units) → Go p l e R s m args below meth c Z own cl xs0 n0 kc ks Q xs h' cells' slots' (mkF m q L (.ref a :: S))) : Go p l e R s m args below meth c Z own cl xs0 n0 kc ks Q xs h cells slots (mkF m pc L S) := fun T locs vm0 k0 X hS hk hZ ho eT N H => by
  subst hq hc hs
  have wl : (Cond.stringLink own i text).before args (s.setVm vm0) = true := mvS hZ w
  obtain ⟨k, cf, j, units, hkk, hcf, hcp, hu, hnm, hdec, hres⟩ := Cond.stringLink_spec (s := s.setVm vm0) ho wl
  have hlt := Jvm.ClassFile.lat_of_text hdec hlat
  -- the step, in each of the three ways that the tables can stand
  have key : ∃ (a : Addr) (T' : State), Stand p l e R (s.setVm T'.vm) m args below meth c T' locs (cells + 2) (slots + (n + 4)) ∧ (s.setVm vm0).Since T'.vm T'.heap.size ∧ Ext T.heap T'.heap ∧ Lt Z T'.heap xs a units ∧ Lits Z cl xs T'.vm T'.heap ∧ ∀ t, Steps p.tables e below (T'.setTop (mkF m (pc + 2) L (.ref a :: S))) t → Steps p.tables e below (T.setTop (mkF m pc L S)) t := by
    have hTh : Lits Z cl xs vm0 T.heap := by rw [eT]; exact H
    rcases hres with h0 | ⟨a, h0⟩
    · cases hf : vm0.interned.find? (fun p => p.1 == units) with
      | some pr =>
        obtain ⟨u', a⟩ := pr
        have hu' : u' = units := by have z := Array.find?_some hf; simpa using z
        subst hu'
        have hlt := hTh.2 _ hin _ k cf j u' a ho hkk hcf hcp hu (Or.inr ⟨h0, hf⟩)
        exact ldc_found X K.1 hkk hcf hcp hu hnm h0 hf (hb K.2.1 hd) hlt hTh
      | none =>
        exact ldc_new X K.1 ho w wS hkk hcf hcp hu hdec h0 hf (hb K.2.1 hd) hn hbig hc' hs' hTh hZ hlat
    · have hlt := hTh.2 _ hin _ k cf j units a ho hkk hcf hcp hu (Or.inl h0)
      exact ldc_res X K.1 hZ ho w hkk h0 (hb K.2.1 hd) hlt hTh
  obtain ⟨a, T', X', hS', E, hl, H', st⟩ := key
  subst eT
  obtain ⟨s₂, o, a1, a2⟩ := r T'.heap a E ⟨units, hdec, hl⟩ T' locs T'.vm _ X' (hS.trans hS' (Nat.le_trans hk E.1)) (Nat.le_refl _) (State.Warmed39.trans (t := s.setVm vm0) hZ hS'.1) (by rw [hS'.1.alike.findClass]; exact ho) rfl N H'
  exact ⟨s₂, o, st _ a1, a2⟩
/-! calls -/
abbrev PreB (R : Room) (as' : Array Value) (h : Heap) (dc ds : Nat) : Pt → Array Value → Prop := fun A a => a = as' ∧ A.U.heap = h ∧ A.cells + dc ≤ R.cells ∧ A.slots + ds ≤ R.slots
abbrev PostB (QQ : Option Value → Heap → List Loc → Prop) (dc ds : Nat) : Pt → Array Value → Option Value → Pt → Prop := fun A _ v B => ∃ L, QQ v B.U.heap L ∧ B.locs = A.locs ++ L ∧ B.cells = A.cells + dc ∧ B.slots = A.slots + ds
theorem Go.bS (K : Cx0 bytes maxL ret mn p meth c) (hq : pc + 3 = q) {i : Nat} {y : MethodName} {bytes' : ByteArray} {maxL' : Nat} {ret' : Option FieldType} (w1 : (Cond.methodLink own i y).before a0 Z = true) (w2 : (Cond.static y).before a0 Z = true) (w3 : (Cond.initialized y.cls).before a0 Z = true) (w4 : (Cond.code y bytes' maxL' ret').before a0 Z = true) (hy : y.cls ≠ "java/lang/invoke/MethodHandle" ∧ y.cls ≠ "java/lang/invoke/VarHandle")
    {W dc ds cells' slots' : Nat} {as' : Array Value} {QQ : Option Value → Heap → List Loc → Prop} (B : ∀ s' : State, Z.Warmed39 s'.vm → Back l R p e below s' args y 3 W (PreB R as' h dc ds) (PostB QQ dc ds)) {sig : MethodDescriptor} (hsig : parseMethodDescriptor y.desc = some sig) {argsL rest : List Value} (has : as' = argsL.toArray) (hlen : argsL.length = sig.parameters.length) (hS : S = argsL.reverse ++ rest) (hsz : L.size = maxL) (hW : (rest.map fun v => v.category).sum ≤ W)
    (hd : decode bytes pc = .ok (.invokestatic i, 3)) (hc : cells + dc = cells') (hs : slots + ds = slots') (hc' : cells' ≤ R.cells) (hs' : slots' ≤ R.slots) (r : ∀ v h' L', QQ v h' L' → Fr n0 L' ∧ h.size ≤ h'.size ∧ ∃ xs', (∀ vm, Lits Z cl xs vm h → Lits Z cl xs' vm h') ∧ Go p l e R s m args below meth c Z own cl xs0 n0 kc ks Q xs' h' cells' slots' (mkF m q L (v.toList ++ rest))) : Go p l e R s m args below meth c Z own cl xs0 n0 kc ks Q xs h cells slots (mkF m pc L S) :=
  Go.of_heap (cells' := cells') (slots' := slots') K fun s' K T locs X eT N => by
    subst hq hc hs
    obtain ⟨v, vm₁, ⟨T', L', k', n'⟩, -, X', ⟨Lc, hQ, l1, l2, l3⟩, st⟩ := Jvm.LawKit.callS X K.1 (y := y) K.2.2.1 (mvT K.2.1 w1) (mvT K.2.1 w2) (mvT K.2.1 w3) (mvT K.2.1 w4) hy (B s' K.2.1) (g := mkF m pc L S) rfl (hsz.trans K.2.2.2.2.1.symm) (argsL := argsL) (rest := rest) (fun sg hg => by rw [hsig] at hg; cases hg; exact hlen) hS (by show 2 * 0 + _ ≤ _; omega) (hb K.2.2.2.1 hd) (fun _ _ => ⟨has.symm, eT, hc', hs'⟩)
    dsimp only [Pt.U, Pt.locs, Pt.cells, Pt.slots] at X' l1 l2 l3 st hQ
    subst l1 l2 l3
    obtain ⟨N', hsz', xs', HH, G⟩ := r v T'.heap Lc hQ
    exact ⟨T', T'.heap, _, _, xs', X', rfl, hsz', Fr.app N N', HH, st, G⟩
theorem Go.bI (K : Cx0 bytes maxL ret mn p meth c) (hq : pc + 3 = q) {i : Nat} {y : MethodName} {bytes' : ByteArray} {maxL' : Nat} (hyi : y.name = "<init>") (w1 : (Cond.methodLink own i y).before a0 Z = true) (w2 : (Cond.instanceMethod y).before a0 Z = true) (w4 : (Cond.code y bytes' maxL' none).before a0 Z = true) (hy : y.cls ≠ "java/lang/invoke/MethodHandle" ∧ y.cls ≠ "java/lang/invoke/VarHandle")
    {W dc ds cells' slots' : Nat} {as' : Array Value} {QQ : Option Value → Heap → List Loc → Prop} (B : ∀ s' : State, Z.Warmed39 s'.vm → Back l R p e below s' args y 3 W (PreB R as' h dc ds) (PostB QQ dc ds)) {sig : MethodDescriptor} (hsig : parseMethodDescriptor y.desc = some sig) {a : Addr} {argsL rest : List Value} (has : as' = (.ref a :: argsL).toArray) (hlen : argsL.length = sig.parameters.length) (hS : S = argsL.reverse ++ .ref a :: rest) (hsz : L.size = maxL) (hW : (rest.map fun v => v.category).sum ≤ W)
    (hd : decode bytes pc = .ok (.invokespecial i, 3)) (hc : cells + dc = cells') (hs : slots + ds = slots') (hc' : cells' ≤ R.cells) (hs' : slots' ≤ R.slots) (r : ∀ v h' L', QQ v h' L' → Fr n0 L' ∧ h.size ≤ h'.size ∧ ∃ xs', (∀ vm, Lits Z cl xs vm h → Lits Z cl xs' vm h') ∧ Go p l e R s m args below meth c Z own cl xs0 n0 kc ks Q xs' h' cells' slots' (mkF m q L (v.toList ++ rest))) : Go p l e R s m args below meth c Z own cl xs0 n0 kc ks Q xs h cells slots (mkF m pc L S) :=
  Go.of_heap (cells' := cells') (slots' := slots') K fun s' K T locs X eT N => by
    subst hq hc hs
    obtain ⟨v, vm₁, ⟨T', L', k', n'⟩, -, X', ⟨Lc, hQ, l1, l2, l3⟩, st⟩ := X.specialBack K.1 (y := y) hyi K.2.2.1 (mvT K.2.1 w1) (mvT K.2.1 w2) (mvT K.2.1 w4) hy (B s' K.2.1) (g := mkF m pc L S) rfl (hsz.trans K.2.2.2.2.1.symm) (Steps.refl _) (a := a) (argsL := argsL) (rest := rest) (fun sg hg => by rw [hsig] at hg; cases hg; exact hlen) hS (by show 2 * 0 + _ ≤ _; omega) (hb K.2.2.2.1 hd) (fun _ _ => ⟨has.symm, eT, hc', hs'⟩)
    dsimp only [Pt.U, Pt.locs, Pt.cells, Pt.slots] at X' l1 l2 l3 st hQ
    subst l1 l2 l3
    obtain ⟨N', hsz', xs', HH, G⟩ := r v T'.heap Lc hQ
    exact ⟨T', T'.heap, _, _, xs', X', rfl, hsz', Fr.app N N', HH, fun t k => st.trans k, G⟩
theorem Go.bV (K : Cx0 bytes maxL ret mn p meth c) (hq : pc + 3 = q) {i : Nat} {C : String} {y z : MethodName} (w1 : (Cond.methodLink own i y).before a0 Z = true) (w2 : (Cond.declares y).before a0 Z = true) (nf : ∀ s' : State, Z.Warmed39 s'.vm → NotFace s' y) (w3 : (Cond.selects C y z).before a0 Z = true) (w4 : (Cond.instanceMethod z).before a0 Z = true) (hy : y.cls ≠ "java/lang/invoke/MethodHandle" ∧ y.cls ≠ "java/lang/invoke/VarHandle")
    {W dc ds cells' slots' : Nat} {as' : Array Value} {QQ : Option Value → Heap → List Loc → Prop} (B : ∀ s' : State, Z.Warmed39 s'.vm → Back l R p e below s' args z 3 W (PreB R as' h dc ds) (PostB QQ dc ds)) {a : Addr} (E : Exa Z h a C) {sig : MethodDescriptor} (hsig : parseMethodDescriptor y.desc = some sig) {argsL rest : List Value} (has : as' = (.ref a :: argsL).toArray) (hlen : argsL.length = sig.parameters.length) (hS : S = argsL.reverse ++ .ref a :: rest) (hsz : L.size = maxL) (hW : (rest.map fun v => v.category).sum ≤ W)
    (hd : decode bytes pc = .ok (.invokevirtual i, 3)) (hc : cells + dc = cells') (hs : slots + ds = slots') (hc' : cells' ≤ R.cells) (hs' : slots' ≤ R.slots) (r : ∀ v h' L', QQ v h' L' → Fr n0 L' ∧ h.size ≤ h'.size ∧ ∃ xs', (∀ vm, Lits Z cl xs vm h → Lits Z cl xs' vm h') ∧ Go p l e R s m args below meth c Z own cl xs0 n0 kc ks Q xs' h' cells' slots' (mkF m q L (v.toList ++ rest))) : Go p l e R s m args below meth c Z own cl xs0 n0 kc ks Q xs h cells slots (mkF m pc L S) :=
  Go.of_heap (cells' := cells') (slots' := slots') K fun s' K T locs X eT N => by
    subst hq hc hs
    obtain ⟨cq, kq, qa, qb, qc⟩ := isOf K.2.1 eT E
    obtain ⟨v, vm₁, ⟨T', L', k', n'⟩, -, X', ⟨Lc, hQ, l1, l2, l3⟩, st⟩ := X.virtualBack K.1 (y := y) (z := z) K.2.2.1 (mvT K.2.1 w1) (mvT K.2.1 w2) (nf s' K.2.1) (mvT K.2.1 w3) (mvT K.2.1 w4) hy (B s' K.2.1) qa qc (g := mkF m pc L S) rfl (hsz.trans K.2.2.2.2.1.symm) (Steps.refl _) (argsL := argsL) (rest := rest) (fun sg hg => by rw [hsig] at hg; cases hg; exact hlen) hS (by show 2 * 0 + _ ≤ _; omega) (hb K.2.2.2.1 hd) (fun _ _ => ⟨has.symm, eT, hc', hs'⟩)
    dsimp only [Pt.U, Pt.locs, Pt.cells, Pt.slots] at X' l1 l2 l3 st hQ
    subst l1 l2 l3
    obtain ⟨N', hsz', xs', HH, G⟩ := r v T'.heap Lc hQ
    exact ⟨T', T'.heap, _, _, xs', X', rfl, hsz', Fr.app N N', HH, fun t k => st.trans k, G⟩
theorem nfS {C : String} {y : MethodName} (w3 : (Cond.selects C y y).before a0 Z = true) : ∀ s' : State, Z.Warmed39 s'.vm → NotFace s' y := fun s' hZ => notFace_of_selects (args := #[]) (mvT hZ w3)
theorem nfTop {y : MethodName} (w : (Cond.noSuperclass y.cls).before a0 Z = true) : ∀ s' : State, Z.Warmed39 s'.vm → NotFace s' y := fun s' hZ => nf_top (args := #[]) (mvT hZ w)
theorem nfSup {y : MethodName} {C : String} (w : (Cond.superclass y.cls C).before a0 Z = true) : ∀ s' : State, Z.Warmed39 s'.vm → NotFace s' y := fun s' hZ => nf_super (args := #[]) (mvT hZ w)
abbrev PreW (Z : State) (cl : List (String × Nat)) (xs : List Addr) (R : Room) (as' : Array Value) (h : Heap) (dc ds : Nat) : Pt → Array Value → Prop := fun A a => a = as' ∧ A.U.heap = h ∧ Lits Z cl xs A.U.vm h ∧ A.cells + dc ≤ R.cells ∧ A.slots + ds ≤ R.slots
abbrev PostW (Z : State) (cl : List (String × Nat)) (xs : List Addr) (n0 : Nat) (Q' : Option Value → Heap → Prop) (dc ds : Nat) : Pt → Array Value → Option Value → Pt → Prop := fun A _ v B => ∃ L, (Q' v B.U.heap ∧ Lits Z cl xs B.U.vm B.U.heap ∧ Fr n0 L) ∧ B.locs = A.locs ++ L ∧ B.cells = A.cells + dc ∧ B.slots = A.slots + ds
/-- a callee's contract as what pays a call -/
theorem Ctr.back {s' : State} (hZ : Z.Warmed39 s'.vm) {y : MethodName} {bytes' : ByteArray} {maxL' : Nat} {ret' : Option FieldType} {rm : Room} {as' : Array Value} {Q' : Option Value → Heap → Prop} {W : Nat} (C : Ctr l Z cl xs n0 y bytes' maxL' ret' [] rm as' h Q') (w4 : (Cond.code y bytes' maxL' ret').before a0 Z = true) (w3 : (Cond.initialized y.cls).before a0 Z = true) (hf : rm.frames + 1 ≤ R.frames) (hl : W + (maxL' + 11) + rm.locals ≤ R.locals) :
    BackS l R p e below s' args y 3 W (PreW Z cl xs R as' h rm.cells rm.slots) (PostW Z cl xs n0 Q' rm.cells rm.slots) :=
  BackS.of_freeW (bytes := bytes') (maxL := maxL') (ret := ret') (E := fun _ _ o t L k n => k = rm.cells ∧ n = rm.slots ∧ ∃ v, o = .returned v ∧ (Q' v t.heap ∧ Lits Z cl xs t.vm t.heap ∧ Fr n0 L)) C hf hl
    (fun m meth c A a Y hp => have hU : Z.Warmed39 A.U.vm := wtrans hZ Y.warmed
      ⟨by show (Cond.and _ .tt).before a A.U = true; rw [Cond.before_and, mv hU w4]; rfl, mv hU w4, mv hU w3, hp.2.2.2.1, hp.2.2.2.2⟩)
    (fun m meth c A a g mk Y hp => ⟨hp.1, wtrans hZ Y.warmed, hp.2.1, hp.2.2.1⟩) (fun _ _ _ _ _ _ _ _ _ => trivial)
    (fun _ _ _ _ ⟨v, L, h1, h2, h3⟩ => ⟨L, _, _, h3, rfl, rfl, v, h1, h2⟩)
    (fun m meth c A a g mk v t L k n Y hp _ _ ⟨e1, e2, v', e3, e4⟩ => by cases e3; subst e1 e2; exact ⟨L, e4, rfl, rfl, rfl⟩)
/-- behind a callee that may have loaded constants -/
theorem Go.behind {f f' : JFrame} {Q' : Option Value → Heap → Prop} {dc ds cells' slots' : Nat} {T : State} {locs : List Loc} {vm0 vm1 : Vm} {k0 : Nat} {B : Pt} {a : Array Value} {v : Option Value} (hk : k0 ≤ h.size) (eT : T.heap = h) (hSi : s.Since vm0 k0) (hZ : Z.Warmed39 vm0) (ho : vm0.findClass own = some m.cls) (N : Fr n0 locs) (hc : cells + dc = cells') (hs : slots + ds = slots')
    (X' : Stand p l e R ((s.setVm vm0).setVm B.U.vm) m args below meth c B.U B.locs B.cells B.slots) (hS' : (s.setVm vm0).Since B.U.vm B.U.heap.size) (hg : T.heap.size ≤ B.U.heap.size) (post : PostW Z cl xs n0 Q' dc ds ⟨T.setVm vm1, locs, cells, slots⟩ a v B) (st : Steps p.tables e below (T.setTop f) (B.U.setTop f')) (r : ∀ h', Q' v h' → h.size ≤ h'.size → Go p l e R s m args below meth c Z own cl xs0 n0 kc ks Q xs h' cells' slots' f') :
    ∃ s₂ o, Steps p.tables e below (T.setTop f) s₂ ∧ s₂.status = .running ∧ Ended s₂ below o ∧ ∃ v L, o = .returned v ∧ (Q v s₂.heap ∧ Lits Z cl xs0 s₂.vm s₂.heap ∧ Fr n0 L) ∧ ReturnedEndW s o s₂ L kc ks := by
  obtain ⟨B1, B2, B3, B4⟩ := B
  obtain ⟨Lc, ⟨hQ, HL, NL⟩, l1, l2, l3⟩ := post
  dsimp only [Pt.U, Pt.locs, Pt.cells, Pt.slots] at X' hS' hg l1 l2 l3 st hQ HL
  subst l1 l2 l3 hc hs
  obtain ⟨s₂, o, a1, a2⟩ := r B1.heap hQ (by rw [← eT]; exact hg) B1 _ B1.vm _ X' (hSi.trans hS' (Nat.le_trans hk (by rw [← eT]; exact hg))) (Nat.le_refl _) (State.Warmed39.trans (t := s.setVm vm0) hZ hS'.1) (by rw [hS'.1.alike.findClass]; exact ho) rfl (Fr.app N NL) HL
  exact ⟨s₂, o, st.trans a1, a2⟩
theorem Lits.warm {vm0 vm1 : Vm} (H : Lits Z cl xs vm0 h) (hW : (s.setVm vm0).WarmedH vm1) : Lits Z cl xs vm1 h := H.step (s := s.setVm vm0) rfl hW.wide (Or.inl hW.interned_eq)
/-- a static call by the callee's contract -/
theorem Go.cS (K : Cx0 bytes maxL ret mn p meth c) (hq : pc + 3 = q) {i : Nat} {y : MethodName} {bytes' : ByteArray} {maxL' : Nat} {ret' : Option FieldType} {rm : Room} {as' : Array Value} {Q' : Option Value → Heap → Prop} (C : Ctr l Z cl xs n0 y bytes' maxL' ret' [] rm as' h Q') (w1 : (Cond.methodLink own i y).before a0 Z = true) (w2 : (Cond.static y).before a0 Z = true) (w3 : (Cond.initialized y.cls).before a0 Z = true) (w4 : (Cond.code y bytes' maxL' ret').before a0 Z = true) (hy : y.cls ≠ "java/lang/invoke/MethodHandle" ∧ y.cls ≠ "java/lang/invoke/VarHandle")
    {sig : MethodDescriptor} (hsig : parseMethodDescriptor y.desc = some sig) {argsL rest : List Value} (has : as' = argsL.toArray) (hlen : argsL.length = sig.parameters.length) (hS : S = argsL.reverse ++ rest) (hsz : L.size = maxL) {W cells' slots' : Nat} (hW : (rest.map fun v => v.category).sum ≤ W) (hf : rm.frames + 1 ≤ R.frames) (hl : W + (maxL' + 11) + rm.locals ≤ R.locals)
    (hd : decode bytes pc = .ok (.invokestatic i, 3)) (hc : cells + rm.cells = cells') (hs : slots + rm.slots = slots') (hc' : cells' ≤ R.cells) (hs' : slots' ≤ R.slots) (r : ∀ v h', Q' v h' → h.size ≤ h'.size → Go p l e R s m args below meth c Z own cl xs0 n0 kc ks Q xs h' cells' slots' (mkF m q L (v.toList ++ rest))) : Go p l e R s m args below meth c Z own cl xs0 n0 kc ks Q xs h cells slots (mkF m pc L S) := fun T locs vm0 k0 X hSi hk hZ ho eT N H => by
  subst hq
  obtain ⟨v, vm₁, B, -, X', hS', hg, post, st⟩ := callSS X K.1 (y := y) ho (mvT hZ w1) (mvT hZ w2) (mvT hZ w3) (mvT hZ w4) hy (C.back (W := W) hZ w4 w3 hf hl) (g := mkF m pc L S) rfl (hsz.trans K.2.2.1.symm) (argsL := argsL) (rest := rest) (fun sg hg => by rw [hsig] at hg; cases hg; exact hlen) hS (by show 2 * 0 + _ ≤ _; omega) (hb K.2.1 hd) (fun vm₁ h₁ => ⟨has.symm, eT, H.warm h₁, by rw [hc]; exact hc', by rw [hs]; exact hs'⟩)
  exact Go.behind hk eT hSi hZ ho N hc hs X' hS' hg post st (r v)
/-- a constructor by its contract -/
theorem Go.cI (K : Cx0 bytes maxL ret mn p meth c) (hq : pc + 3 = q) {i : Nat} {y : MethodName} {bytes' : ByteArray} {maxL' : Nat} {rm : Room} {as' : Array Value} {Q' : Option Value → Heap → Prop} (C : Ctr l Z cl xs n0 y bytes' maxL' none [] rm as' h Q') (hyi : y.name = "<init>") (w1 : (Cond.methodLink own i y).before a0 Z = true) (w2 : (Cond.instanceMethod y).before a0 Z = true) (w3 : (Cond.initialized y.cls).before a0 Z = true) (w4 : (Cond.code y bytes' maxL' none).before a0 Z = true) (hy : y.cls ≠ "java/lang/invoke/MethodHandle" ∧ y.cls ≠ "java/lang/invoke/VarHandle")
    {sig : MethodDescriptor} (hsig : parseMethodDescriptor y.desc = some sig) {a : Addr} {argsL rest : List Value} (has : as' = (.ref a :: argsL).toArray) (hlen : argsL.length = sig.parameters.length) (hS : S = argsL.reverse ++ .ref a :: rest) (hsz : L.size = maxL) {W cells' slots' : Nat} (hW : (rest.map fun v => v.category).sum ≤ W) (hf : rm.frames + 1 ≤ R.frames) (hl : W + (maxL' + 11) + rm.locals ≤ R.locals)
    (hd : decode bytes pc = .ok (.invokespecial i, 3)) (hc : cells + rm.cells = cells') (hs : slots + rm.slots = slots') (hc' : cells' ≤ R.cells) (hs' : slots' ≤ R.slots) (r : ∀ v h', Q' v h' → h.size ≤ h'.size → Go p l e R s m args below meth c Z own cl xs0 n0 kc ks Q xs h' cells' slots' (mkF m q L (v.toList ++ rest))) : Go p l e R s m args below meth c Z own cl xs0 n0 kc ks Q xs h cells slots (mkF m pc L S) := fun T locs vm0 k0 X hSi hk hZ ho eT N H => by
  subst hq
  obtain ⟨v, vm₁, B, -, X', hS', hg, post, st⟩ := X.specialBackS K.1 (y := y) hyi ho (mvT hZ w1) (mvT hZ w2) (mvT hZ w4) hy (C.back (W := W) hZ w4 w3 hf hl) (g := mkF m pc L S) rfl (hsz.trans K.2.2.1.symm) (Steps.refl _) (a := a) (argsL := argsL) (rest := rest) (fun sg hg => by rw [hsig] at hg; cases hg; exact hlen) hS (by show 2 * 0 + _ ≤ _; omega) (hb K.2.1 hd) (fun vm₁ h₁ => ⟨has.symm, eT, H.warm h₁, by rw [hc]; exact hc', by rw [hs]; exact hs'⟩)
  exact Go.behind hk eT hSi hZ ho N hc hs X' hS' hg post st (r v)
/-- an instance method by its contract -/
theorem Go.cV (K : Cx0 bytes maxL ret mn p meth c) (hq : pc + 3 = q) {i : Nat} {C0 : String} {y z : MethodName} {bytes' : ByteArray} {maxL' : Nat} {ret' : Option FieldType} {rm : Room} {as' : Array Value} {Q' : Option Value → Heap → Prop} (C : Ctr l Z cl xs n0 z bytes' maxL' ret' [] rm as' h Q') (w1 : (Cond.methodLink own i y).before a0 Z = true) (w2 : (Cond.declares y).before a0 Z = true) (nf : ∀ s' : State, Z.Warmed39 s'.vm → NotFace s' y) (w3 : (Cond.selects C0 y z).before a0 Z = true) (w4 : (Cond.instanceMethod z).before a0 Z = true) (w5 : (Cond.initialized z.cls).before a0 Z = true) (w6 : (Cond.code z bytes' maxL' ret').before a0 Z = true) (hy : y.cls ≠ "java/lang/invoke/MethodHandle" ∧ y.cls ≠ "java/lang/invoke/VarHandle")
    {a : Addr} (E : Exa Z h a C0) {sig : MethodDescriptor} (hsig : parseMethodDescriptor y.desc = some sig) {argsL rest : List Value} (has : as' = (.ref a :: argsL).toArray) (hlen : argsL.length = sig.parameters.length) (hS : S = argsL.reverse ++ .ref a :: rest) (hsz : L.size = maxL) {W cells' slots' : Nat} (hW : (rest.map fun v => v.category).sum ≤ W) (hf : rm.frames + 1 ≤ R.frames) (hl : W + (maxL' + 11) + rm.locals ≤ R.locals)
    (hd : decode bytes pc = .ok (.invokevirtual i, 3)) (hc : cells + rm.cells = cells') (hs : slots + rm.slots = slots') (hc' : cells' ≤ R.cells) (hs' : slots' ≤ R.slots) (r : ∀ v h', Q' v h' → h.size ≤ h'.size → Go p l e R s m args below meth c Z own cl xs0 n0 kc ks Q xs h' cells' slots' (mkF m q L (v.toList ++ rest))) : Go p l e R s m args below meth c Z own cl xs0 n0 kc ks Q xs h cells slots (mkF m pc L S) := fun T locs vm0 k0 X hSi hk hZ ho eT N H => by
  subst hq
  obtain ⟨cq, kq, qa, qb, qc⟩ := isOf (s := s.setVm vm0) hZ eT E
  obtain ⟨v, vm₁, B, -, X', hS', hg, post, st⟩ := X.virtualBackS K.1 (y := y) (z := z) ho (mvT hZ w1) (mvT hZ w2) (nf (s.setVm vm0) hZ) (mvT hZ w3) (mvT hZ w4) hy (C.back (W := W) hZ w6 w5 hf hl) qa qc (g := mkF m pc L S) rfl (hsz.trans K.2.2.1.symm) (Steps.refl _) (argsL := argsL) (rest := rest) (fun sg hg => by rw [hsig] at hg; cases hg; exact hlen) hS (by show 2 * 0 + _ ≤ _; omega) (hb K.2.1 hd) (fun vm₁ h₁ => ⟨has.symm, eT, H.warm h₁, by rw [hc]; exact hc', by rw [hs]; exact hs'⟩)
  exact Go.behind hk eT hSi hZ ho N hc hs X' hS' hg post st (r v)
end Rules
theorem notsub {Z : State} {a0 : Array Value} {C S K : String} {n : Nat} (w : (Cond.superclass C S).before a0 Z = true) (wn : (Cond.noSuperclass S).before a0 Z = true) (wk : (Cond.instantiable K n).before a0 Z = true) (h1 : C ≠ K) (h2 : S ≠ K) : ∃ c t, Z.vm.findClass C = some c ∧ Z.vm.findClass K = some t ∧ Z.vm.assignable c t = false := by
  obtain ⟨t, kt, g1, g2, g3, g4, -⟩ := Cond.instantiable_spec wk
  obtain ⟨c0, k0, m1, m2, m3, -, -⟩ := Cond.noSuperclass_spec wn
  obtain ⟨c, h0⟩ := found_sup w
  obtain ⟨p, k, kp, s1, s2, s3, s4, s5, -, s7⟩ := Cond.superclass_spec h0 w
  cases m1.symm.trans s1
  have e1 := ids_ne h0 g1 h1
  have e2 := ids_ne m1 g1 h2
  have g5 : kt.isInterface = false := by cases q : kt.isInterface <;> simp_all
  have sub : ∀ fuel, Z.vm.isSubclassAux fuel c t = false := fun fuel => by
    cases fuel with
    | zero => rfl
    | succ f =>
      cases f with
      | zero => simp [Vm.isSubclassAux, e1, s2, s4]
      | succ f => simp [Vm.isSubclassAux, e1, s2, s4, e2, m2, m3]
  refine ⟨c, t, h0, g1, ?_⟩
  show Z.vm.assignableAux (255 + 1) c t = false
  simp [Vm.assignableAux, e1, s2, g2, s5, g3, g5, Vm.isSubclass, sub]
/-! what is carried -/
theorem Ext.refl (h : Heap) : Ext h h := ⟨Nat.le_refl _, fun _ _ q => q⟩
theorem Ext.trans {h0 h h' : Heap} (E : Ext h0 h) (E' : Ext h h') : Ext h0 h' := ⟨Nat.le_trans E.1 E'.1, fun a c q => E'.2 a c (E.2 a c q)⟩
theorem Ext.keep {h0 h h' : Heap} {ws : List Addr} (E : Ext h0 h) (K : Keep h h' ws) (q : ∀ x ∈ ws, h0.size ≤ x) : Ext h0 h' :=
  ⟨Nat.le_trans E.1 K.1, fun a c r => K.2.1 a c (E.2 a c r) fun z => absurd (Array.getElem?_eq_some_iff.mp r).1 (Nat.not_lt.mpr (q a z))⟩
theorem Ext.wr {h0 h h' : Heap} {a : Addr} {sl : Nat} {v : Value} (E : Ext h0 h) (W : Wr h h' a sl v) (q : h0.size ≤ a) : Ext h0 h' := Ext.keep E (Keep.of_wr W) (allS q all0)
theorem Ext.of_keep {h h' : Heap} (K : Keep h h' []) : Ext h h' := ⟨K.1, fun a c q => K.2.1 a c q nin0⟩
theorem Ext.sta {Z : State} {h h' : Heap} {C n d : String} {v : Value} (E : Ext h h') (F : Sta Z h C n d v) : Sta Z h' C n d v := F.ext E
end Jvm.Pilot.@@N@@.W
namespace Jvm.Pilot.@@N@@.W
open Jvm Jvm.ClassFile Sem Op Lib Jvm.Free Jvm.Stand Jvm.LawKit Jvm.RoadKit
/-- how a String's bytes spell its chars (Latin-1 alone) -/
def CodL (cs : List Int32) (cd N2 : Int32) (vs : List Value) : Prop := (cd = 0 ∧ N2 = Int32.ofNat cs.length ∧ vs = (cs.map fun c => Value.int c.toInt8.toInt32) ∧ ∀ c ∈ cs, ¬ (255 : Int32) < c) ∨ False
/-- a String with the chars cs -/
def Str (Z : State) (h : Heap) (a : Addr) (cs : List Int32) : Prop :=
  ∃ (t : Addr) (kb : ClassId) (cd N2 : Int32) (vs : List Value), Exa Z h a "java/lang/String" ∧ Fld Z h a "java/lang/String" "value" "[B" (.ref t) ∧ Fld Z h a "java/lang/String" "coder" "B" (.int cd) ∧ Arv Z h t kb .byte N2 vs (.int 0) ∧ CodL cs cd N2 vs ∧ (∀ c ∈ cs, ¬ c < 0 ∧ ¬ (65535 : Int32) < c) ∧ cs.length ≤ 4000
theorem Str.ext {Z : State} {h h' : Heap} {a : Addr} {cs : List Int32} (F : Str Z h a cs) (E : Ext h h') : Str Z h' a cs := by
  obtain ⟨t, kb, cd, N2, vs, f1, f2, f3, f4, f5⟩ := F
  exact ⟨t, kb, cd, N2, vs, f1.ext E, f2.ext E, f3.ext E, f4.ext E, f5⟩
theorem Str.exa {Z : State} {h : Heap} {a : Addr} {cs : List Int32} (F : Str Z h a cs) : Exa Z h a "java/lang/String" := by
  obtain ⟨t, kb, cd, N2, vs, f1, -⟩ := F; exact f1
theorem up16 {cs : List Int32} (h : ∀ c ∈ cs, ¬ c < 0 ∧ ¬ (255 : Int32) < c) : ∀ c ∈ cs, ¬ c < 0 ∧ ¬ (65535 : Int32) < c := fun c hc => ⟨(h c hc).1, fun q => (h c hc).2 (by rw [Int32.lt_iff_toInt_lt] at q ⊢; have e1 : (65535 : Int32).toInt = 65535 := rfl; have e2 : (255 : Int32).toInt = 255 := rfl; omega)⟩
/-- a text's chars -/
def chs (text : String) : List Int32 := text.toList.map fun c => Int32.ofNat c.toNat
theorem Str.lit {Z : State} {h : Heap} {xs : List Addr} {a : Addr} {text : String} (hlat : ∀ c ∈ text.toList, c.toNat < 256) (hlen : text.toList.length ≤ 4000) (F : ∃ units : Array UInt16, utf16ToString? units = some text ∧ Lt Z h xs a units) : Str Z h a (chs text) := by
  obtain ⟨units, hu, t, kb, f1, f2, f3, f4, -, -⟩ := F
  have e := Jvm.ClassFile.units_of_text hu hlat
  have hsz : units.size = (chs text).length := by rw [← Array.length_toList, e]; simp [chs]
  have t255 : ∀ k : Fin 256, Jvm.Lit.byteI (k.val.toUInt16) = (Int32.ofNat k.val).toInt8.toInt32 ∧ ¬ (255 : Int32) < Int32.ofNat k.val ∧ ¬ Int32.ofNat k.val < 0 := by decide +kernel
  have hb : ∀ c ∈ chs text, ¬ c < 0 ∧ ¬ (255 : Int32) < c := fun c hc => by
    obtain ⟨ch, h1, rfl⟩ := List.mem_map.mp hc
    exact ⟨(t255 ⟨_, hlat ch h1⟩).2.2, (t255 ⟨_, hlat ch h1⟩).2.1⟩
  refine ⟨t, kb, 0, _, _, f1, f2, f3, f4, Or.inl ⟨rfl, by rw [hsz], ?_, fun c hc => (hb c hc).2⟩, up16 hb, by simpa [chs] using hlen⟩
  rw [e]
  simp only [chs, List.map_map]
  refine List.map_congr_left fun ch h1 => ?_
  exact congrArg Value.int (t255 ⟨_, hlat ch h1⟩).1
/-- a constructor's writes into an object that is no String leave every String -/
theorem Str.keepO {Z : State} {h h' : Heap} {s a : Addr} {C : String} {cs : List Int32} {a0 : Array Value} {n : Nat} (F : Str Z h s cs) (E : Exa Z h a C) (hC : C ≠ "java/lang/String") (wi : (Cond.instantiable C n).before a0 Z = true) (K : Keep h h' [a]) : Str Z h' s cs := by
  obtain ⟨t, kb, cd, N2, vs, f1, f2, f3, f4, f5⟩ := F
  have n1 : s ∉ [a] := ninS (fun q => (Exa.ne E f1 hC) q.symm) nin0
  have n2 : t ∉ [a] := ninS (fun q => (Exa.neArv E f4 wi) q.symm) nin0
  exact ⟨t, kb, cd, N2, vs, f1.keep K, f2.keep K n1, f3.keep K n1, f4.keep K n2, f5⟩
theorem fld_uniq {Z : State} {h : Heap} {a : Addr} {C n d : String} {v w : Value} (F : Fld Z h a C n d v) (G : Fld Z h a C n d w) : v = w := by
  by_cases q : v = w
  · exact q
  · exact absurd rfl (Fld.ne F G q)
theorem lo8_one {x y : Int32} (hx : ¬ x < 0 ∧ ¬ (255 : Int32) < x) (hy : ¬ y < 0 ∧ ¬ (255 : Int32) < y) (h : x.toInt8.toInt32 = y.toInt8.toInt32) : x = y := by
  apply Int32.toInt_inj.mp
  have e1 := c_i2b x
  have e2 := c_i2b y
  rw [h] at e1
  simp only [Int32.lt_iff_toInt_lt] at hx hy
  have z0 : (0 : Int32).toInt = 0 := rfl
  have z1 : (255 : Int32).toInt = 255 := rfl
  omega
theorem lo8_list : ∀ (cs ds : List Int32), (∀ c ∈ cs, ¬ c < 0 ∧ ¬ (255 : Int32) < c) → (∀ c ∈ ds, ¬ c < 0 ∧ ¬ (255 : Int32) < c) → (cs.map fun c => c.toInt8.toInt32) = (ds.map fun c => c.toInt8.toInt32) → cs = ds
  | [], [], _, _, _ => rfl
  | [], _ :: _, _, _, h => by simp at h
  | _ :: _, [], _, _, h => by simp at h
  | c :: cs, d :: ds, h1, h2, h => by
    simp only [List.map_cons, List.cons.injEq] at h
    rw [lo8_one (h1 c List.mem_cons_self) (h2 d List.mem_cons_self) h.1, lo8_list cs ds (fun x hx => h1 x (List.mem_cons_of_mem _ hx)) (fun x hx => h2 x (List.mem_cons_of_mem _ hx)) h.2]
theorem Str.uniq {Z : State} {h : Heap} {a : Addr} {cs ds : List Int32} (F : Str Z h a cs) (G : Str Z h a ds) : cs = ds := by
  obtain ⟨t, kb, cd, N2, vs, f1, f2, f3, ⟨c1, A1, -, A3, A4, A5, -⟩, f5, f6, f7⟩ := F
  obtain ⟨t', kb', cd', N2', vs', g1, g2, g3, ⟨c2, B1, -, B3, B4, B5, -⟩, g5, g6, g7⟩ := G
  cases fld_uniq f2 g2
  cases A1.1.symm.trans B1.1
  rcases f5 with ⟨-, rfl, rfl, hb⟩ | z
  · rcases g5 with ⟨-, rfl, rfl, hb'⟩ | z
    · have l1 : cs.length < 2 ^ 31 := by omega
      have l2 : ds.length < 2 ^ 31 := by omega
      have e1 : (Int32.ofNat cs.length).toNatClampNeg = cs.length := by show (Int32.ofNat cs.length).toInt.toNat = _; rw [Int32.toInt_ofNat_small l1]; simp
      have e2 : (Int32.ofNat ds.length).toNatClampNeg = ds.length := by show (Int32.ofNat ds.length).toInt.toNat = _; rw [Int32.toInt_ofNat_small l2]; simp
      rw [e1] at A3; rw [e2] at B3
      refine lo8_list cs ds (fun c hc => ⟨(f6 c hc).1, hb c hc⟩) (fun c hc => ⟨(g6 c hc).1, hb' c hc⟩) ?_
      refine List.ext_getElem (by simp; omega) fun j j1 j2 => ?_
      simp only [List.length_map] at j1 j2
      have z := (A5 j (by omega)).symm.trans (B5 j (by omega))
      simpa [List.getD_eq_getElem?_getD, j1, j2] using z
    · exact z.elim
  · exact z.elim
end Jvm.Pilot.@@N@@.W
namespace Jvm.Pilot.@@N@@
open Jvm Jvm.ClassFile Sem Op Lib Jvm.Free Jvm.Stand Jvm.LawKit Jvm.RoadKit Bundle Jvm.Pilot.@@N@@.W Jvm.Pilot.@@N@@.Jvm.D
theorem d8_0 : decode jdk_43_method_3_code 0 = .ok (.iload_n 0, 1) := by decide +kernel
theorem d8_1 : decode jdk_43_method_3_code 1 = .ok (.sipush 255, 3) := by decide +kernel
theorem d8_4 : decode jdk_43_method_3_code 4 = .ok (.if_icmp .gt 7, 3) := by decide +kernel
theorem d8_7 : decode jdk_43_method_3_code 7 = .ok (.iconst 1, 1) := by decide +kernel
theorem d8_8 : decode jdk_43_method_3_code 8 = .ok (.goto 4, 3) := by decide +kernel
theorem d8_12 : decode jdk_43_method_3_code 12 = .ok (.ireturn, 1) := by decide +kernel
theorem d9_0 : decode jdk_43_method_46_code 0 = .ok (.iconst 1, 1) := by decide +kernel
theorem d9_1 : decode jdk_43_method_46_code 1 = .ok (.newarray .byte, 2) := by decide +kernel
theorem d9_3 : decode jdk_43_method_46_code 3 = .ok (.dup, 1) := by decide +kernel
theorem d9_4 : decode jdk_43_method_46_code 4 = .ok (.iconst 0, 1) := by decide +kernel
theorem d9_5 : decode jdk_43_method_46_code 5 = .ok (.iload_n 0, 1) := by decide +kernel
theorem d9_6 : decode jdk_43_method_46_code 6 = .ok (.i2b, 1) := by decide +kernel
theorem d9_7 : decode jdk_43_method_46_code 7 = .ok (.bastore, 1) := by decide +kernel
theorem d9_8 : decode jdk_43_method_46_code 8 = .ok (.areturn, 1) := by decide +kernel
theorem d10_0 : decode jdk_42_method_151_code 0 = .ok (.aload_n 0, 1) := by decide +kernel
theorem d10_1 : decode jdk_42_method_151_code 1 = .ok (.invokespecial 1, 3) := by decide +kernel
theorem d10_4 : decode jdk_42_method_151_code 4 = .ok (.aload_n 0, 1) := by decide +kernel
theorem d10_5 : decode jdk_42_method_151_code 5 = .ok (.aload_n 1, 1) := by decide +kernel
theorem d10_6 : decode jdk_42_method_151_code 6 = .ok (.putfield 9, 3) := by decide +kernel
theorem d10_9 : decode jdk_42_method_151_code 9 = .ok (.aload_n 0, 1) := by decide +kernel
theorem d10_10 : decode jdk_42_method_151_code 10 = .ok (.iload_n 2, 1) := by decide +kernel
theorem d10_11 : decode jdk_42_method_151_code 11 = .ok (.putfield 15, 3) := by decide +kernel
theorem d10_14 : decode jdk_42_method_151_code 14 = .ok (.return_, 1) := by decide +kernel
theorem d7_0 : decode jdk_42_method_139_code 0 = .ok (.getstatic 38, 3) := by decide +kernel
theorem d7_3 : decode jdk_42_method_139_code 3 = .ok (.ifCond .eq 23, 3) := by decide +kernel
theorem d7_6 : decode jdk_42_method_139_code 6 = .ok (.iload_n 0, 1) := by decide +kernel
theorem d7_7 : decode jdk_42_method_139_code 7 = .ok (.invokestatic 1015, 3) := by decide +kernel
theorem d7_10 : decode jdk_42_method_139_code 10 = .ok (.ifCond .eq 16, 3) := by decide +kernel
theorem d7_13 : decode jdk_42_method_139_code 13 = .ok (.new 10, 3) := by decide +kernel
theorem d7_16 : decode jdk_42_method_139_code 16 = .ok (.dup, 1) := by decide +kernel
theorem d7_17 : decode jdk_42_method_139_code 17 = .ok (.iload_n 0, 1) := by decide +kernel
theorem d7_18 : decode jdk_42_method_139_code 18 = .ok (.invokestatic 1018, 3) := by decide +kernel
theorem d7_21 : decode jdk_42_method_139_code 21 = .ok (.iconst 0, 1) := by decide +kernel
theorem d7_22 : decode jdk_42_method_139_code 22 = .ok (.invokespecial 209, 3) := by decide +kernel
theorem d7_25 : decode jdk_42_method_139_code 25 = .ok (.areturn, 1) := by decide +kernel
theorem d3_0 : decode jdk_42_method_149_code 0 = .ok (.aload_n 0, 1) := by decide +kernel
theorem d3_1 : decode jdk_42_method_149_code 1 = .ok (.invokespecial 1, 3) := by decide +kernel
theorem d3_4 : decode jdk_42_method_149_code 4 = .ok (.iload_n 3, 1) := by decide +kernel
theorem d3_5 : decode jdk_42_method_149_code 5 = .ok (.ifCond .ne 22, 3) := by decide +kernel
theorem d3_8 : decode jdk_42_method_149_code 8 = .ok (.aload_n 0, 1) := by decide +kernel
theorem d3_9 : decode jdk_42_method_149_code 9 = .ok (.ldc 7, 2) := by decide +kernel
theorem d3_11 : decode jdk_42_method_149_code 11 = .ok (.getfield 9, 3) := by decide +kernel
theorem d3_14 : decode jdk_42_method_149_code 14 = .ok (.putfield 9, 3) := by decide +kernel
theorem d3_17 : decode jdk_42_method_149_code 17 = .ok (.aload_n 0, 1) := by decide +kernel
theorem d3_18 : decode jdk_42_method_149_code 18 = .ok (.ldc 7, 2) := by decide +kernel
theorem d3_20 : decode jdk_42_method_149_code 20 = .ok (.getfield 15, 3) := by decide +kernel
theorem d3_23 : decode jdk_42_method_149_code 23 = .ok (.putfield 15, 3) := by decide +kernel
theorem d3_26 : decode jdk_42_method_149_code 26 = .ok (.return_, 1) := by decide +kernel
theorem d2_0 : decode jdk_42_method_3_code 0 = .ok (.aload_n 0, 1) := by decide +kernel
theorem d2_1 : decode jdk_42_method_3_code 1 = .ok (.aload_n 1, 1) := by decide +kernel
theorem d2_2 : decode jdk_42_method_3_code 2 = .ok (.iconst 0, 1) := by decide +kernel
theorem d2_3 : decode jdk_42_method_3_code 3 = .ok (.aload_n 1, 1) := by decide +kernel
theorem d2_4 : decode jdk_42_method_3_code 4 = .ok (.arraylength, 1) := by decide +kernel
theorem d2_5 : decode jdk_42_method_3_code 5 = .ok (.aconst_null, 1) := by decide +kernel
theorem d2_6 : decode jdk_42_method_3_code 6 = .ok (.invokespecial 27, 3) := by decide +kernel
theorem d2_9 : decode jdk_42_method_3_code 9 = .ok (.return_, 1) := by decide +kernel
theorem d13_0 : decode jdk_43_method_13_code 0 = .ok (.aload_n 0, 1) := by decide +kernel
theorem d13_1 : decode jdk_43_method_13_code 1 = .ok (.arraylength, 1) := by decide +kernel
theorem d13_2 : decode jdk_43_method_13_code 2 = .ok (.aload_n 1, 1) := by decide +kernel
theorem d13_3 : decode jdk_43_method_13_code 3 = .ok (.arraylength, 1) := by decide +kernel
theorem d13_4 : decode jdk_43_method_13_code 4 = .ok (.if_icmp .ne 30, 3) := by decide +kernel
theorem d13_7 : decode jdk_43_method_13_code 7 = .ok (.iconst 0, 1) := by decide +kernel
theorem d13_8 : decode jdk_43_method_13_code 8 = .ok (.istore_n 2, 1) := by decide +kernel
theorem d13_9 : decode jdk_43_method_13_code 9 = .ok (.iload_n 2, 1) := by decide +kernel
theorem d13_10 : decode jdk_43_method_13_code 10 = .ok (.aload_n 0, 1) := by decide +kernel
theorem d13_11 : decode jdk_43_method_13_code 11 = .ok (.arraylength, 1) := by decide +kernel
theorem d13_12 : decode jdk_43_method_13_code 12 = .ok (.if_icmp .ge 20, 3) := by decide +kernel
theorem d13_32 : decode jdk_43_method_13_code 32 = .ok (.iconst 1, 1) := by decide +kernel
theorem d13_33 : decode jdk_43_method_13_code 33 = .ok (.ireturn, 1) := by decide +kernel
theorem d13_34 : decode jdk_43_method_13_code 34 = .ok (.iconst 0, 1) := by decide +kernel
theorem d13_35 : decode jdk_43_method_13_code 35 = .ok (.ireturn, 1) := by decide +kernel
theorem d13_15 : decode jdk_43_method_13_code 15 = .ok (.aload_n 0, 1) := by decide +kernel
theorem d13_16 : decode jdk_43_method_13_code 16 = .ok (.iload_n 2, 1) := by decide +kernel
theorem d13_17 : decode jdk_43_method_13_code 17 = .ok (.baload, 1) := by decide +kernel
theorem d13_18 : decode jdk_43_method_13_code 18 = .ok (.aload_n 1, 1) := by decide +kernel
theorem d13_19 : decode jdk_43_method_13_code 19 = .ok (.iload_n 2, 1) := by decide +kernel
theorem d13_20 : decode jdk_43_method_13_code 20 = .ok (.baload, 1) := by decide +kernel
theorem d13_21 : decode jdk_43_method_13_code 21 = .ok (.if_icmp .eq 5, 3) := by decide +kernel
theorem d13_26 : decode jdk_43_method_13_code 26 = .ok (.iinc 2 1, 3) := by decide +kernel
theorem d13_29 : decode jdk_43_method_13_code 29 = .ok (.goto (-20), 3) := by decide +kernel
theorem d13_24 : decode jdk_43_method_13_code 24 = .ok (.iconst 0, 1) := by decide +kernel
theorem d13_25 : decode jdk_43_method_13_code 25 = .ok (.ireturn, 1) := by decide +kernel
theorem d12_0 : decode jdk_42_method_66_code 0 = .ok (.aload_n 0, 1) := by decide +kernel
theorem d12_1 : decode jdk_42_method_66_code 1 = .ok (.aload_n 1, 1) := by decide +kernel
theorem d12_2 : decode jdk_42_method_66_code 2 = .ok (.if_acmp .ne 5, 3) := by decide +kernel
theorem d12_5 : decode jdk_42_method_66_code 5 = .ok (.iconst 1, 1) := by decide +kernel
theorem d12_6 : decode jdk_42_method_66_code 6 = .ok (.ireturn, 1) := by decide +kernel
theorem d12_7 : decode jdk_42_method_66_code 7 = .ok (.aload_n 1, 1) := by decide +kernel
theorem d12_8 : decode jdk_42_method_66_code 8 = .ok (.instanceof 10, 3) := by decide +kernel
theorem d12_11 : decode jdk_42_method_66_code 11 = .ok (.ifCond .eq 43, 3) := by decide +kernel
theorem d12_14 : decode jdk_42_method_66_code 14 = .ok (.aload_n 1, 1) := by decide +kernel
theorem d12_15 : decode jdk_42_method_66_code 15 = .ok (.checkcast 10, 3) := by decide +kernel
theorem d12_18 : decode jdk_42_method_66_code 18 = .ok (.astore_n 2, 1) := by decide +kernel
theorem d12_19 : decode jdk_42_method_66_code 19 = .ok (.getstatic 38, 3) := by decide +kernel
theorem d12_22 : decode jdk_42_method_66_code 22 = .ok (.ifCond .eq 14, 3) := by decide +kernel
theorem d12_25 : decode jdk_42_method_66_code 25 = .ok (.aload_n 0, 1) := by decide +kernel
theorem d12_26 : decode jdk_42_method_66_code 26 = .ok (.getfield 15, 3) := by decide +kernel
theorem d12_29 : decode jdk_42_method_66_code 29 = .ok (.aload_n 2, 1) := by decide +kernel
theorem d12_30 : decode jdk_42_method_66_code 30 = .ok (.getfield 15, 3) := by decide +kernel
theorem d12_33 : decode jdk_42_method_66_code 33 = .ok (.if_icmp .ne 21, 3) := by decide +kernel
theorem d12_36 : decode jdk_42_method_66_code 36 = .ok (.aload_n 0, 1) := by decide +kernel
theorem d12_37 : decode jdk_42_method_66_code 37 = .ok (.getfield 9, 3) := by decide +kernel
theorem d12_40 : decode jdk_42_method_66_code 40 = .ok (.aload_n 2, 1) := by decide +kernel
theorem d12_41 : decode jdk_42_method_66_code 41 = .ok (.getfield 9, 3) := by decide +kernel
theorem d12_44 : decode jdk_42_method_66_code 44 = .ok (.invokestatic 541, 3) := by decide +kernel
theorem d12_47 : decode jdk_42_method_66_code 47 = .ok (.ifCond .eq 7, 3) := by decide +kernel
theorem d12_50 : decode jdk_42_method_66_code 50 = .ok (.iconst 1, 1) := by decide +kernel
theorem d12_51 : decode jdk_42_method_66_code 51 = .ok (.goto 4, 3) := by decide +kernel
theorem d12_55 : decode jdk_42_method_66_code 55 = .ok (.ireturn, 1) := by decide +kernel
theorem d12_54 : decode jdk_42_method_66_code 54 = .ok (.iconst 0, 1) := by decide +kernel
theorem d1_0 : decode method_2_code 0 = .ok (.iload_n 0, 1) := by decide +kernel
theorem d1_1 : decode method_2_code 1 = .ok (.sipush 256, 3) := by decide +kernel
theorem d1_4 : decode method_2_code 4 = .ok (.iand, 1) := by decide +kernel
theorem d1_5 : decode method_2_code 5 = .ok (.ifCond .ne 14, 3) := by decide +kernel
theorem d1_19 : decode method_2_code 19 = .ok (.iload_n 0, 1) := by decide +kernel
theorem d1_20 : decode method_2_code 20 = .ok (.sipush 255, 3) := by decide +kernel
theorem d1_23 : decode method_2_code 23 = .ok (.iand, 1) := by decide +kernel
theorem d1_24 : decode method_2_code 24 = .ok (.i2c, 1) := by decide +kernel
theorem d1_25 : decode method_2_code 25 = .ok (.invokestatic 12, 3) := by decide +kernel
theorem d1_28 : decode method_2_code 28 = .ok (.areturn, 1) := by decide +kernel
theorem d1_8 : decode method_2_code 8 = .ok (.new 7, 3) := by decide +kernel
theorem d1_11 : decode method_2_code 11 = .ok (.dup, 1) := by decide +kernel
theorem d1_12 : decode method_2_code 12 = .ok (.iconst 0, 1) := by decide +kernel
theorem d1_13 : decode method_2_code 13 = .ok (.newarray .char, 2) := by decide +kernel
theorem d1_15 : decode method_2_code 15 = .ok (.invokespecial 9, 3) := by decide +kernel
theorem d1_18 : decode method_2_code 18 = .ok (.areturn, 1) := by decide +kernel
theorem d5_0 : decode prog_38_method_1_code 0 = .ok (.aload_n 0, 1) := by decide +kernel
theorem d5_1 : decode prog_38_method_1_code 1 = .ok (.invokespecial 1, 3) := by decide +kernel
theorem d5_4 : decode prog_38_method_1_code 4 = .ok (.aload_n 0, 1) := by decide +kernel
theorem d5_5 : decode prog_38_method_1_code 5 = .ok (.aload_n 1, 1) := by decide +kernel
theorem d5_6 : decode prog_38_method_1_code 6 = .ok (.putfield 7, 3) := by decide +kernel
theorem d5_9 : decode prog_38_method_1_code 9 = .ok (.aload_n 0, 1) := by decide +kernel
theorem d5_10 : decode prog_38_method_1_code 10 = .ok (.aload_n 2, 1) := by decide +kernel
theorem d5_11 : decode prog_38_method_1_code 11 = .ok (.putfield 13, 3) := by decide +kernel
theorem d5_14 : decode prog_38_method_1_code 14 = .ok (.aload_n 0, 1) := by decide +kernel
theorem d5_15 : decode prog_38_method_1_code 15 = .ok (.aload_n 3, 1) := by decide +kernel
theorem d5_16 : decode prog_38_method_1_code 16 = .ok (.putfield 16, 3) := by decide +kernel
theorem d5_19 : decode prog_38_method_1_code 19 = .ok (.return_, 1) := by decide +kernel
theorem d6_0 : decode prog_38_method_5_code 0 = .ok (.aload_n 1, 1) := by decide +kernel
theorem d6_1 : decode prog_38_method_5_code 1 = .ok (.instanceof 8, 3) := by decide +kernel
theorem d6_4 : decode prog_38_method_5_code 4 = .ok (.ifCond .ne 5, 3) := by decide +kernel
theorem d6_7 : decode prog_38_method_5_code 7 = .ok (.iconst 0, 1) := by decide +kernel
theorem d6_8 : decode prog_38_method_5_code 8 = .ok (.ireturn, 1) := by decide +kernel
theorem d6_9 : decode prog_38_method_5_code 9 = .ok (.aload_n 1, 1) := by decide +kernel
theorem d6_10 : decode prog_38_method_5_code 10 = .ok (.checkcast 8, 3) := by decide +kernel
theorem d6_13 : decode prog_38_method_5_code 13 = .ok (.astore_n 2, 1) := by decide +kernel
theorem d6_14 : decode prog_38_method_5_code 14 = .ok (.aload_n 0, 1) := by decide +kernel
theorem d6_15 : decode prog_38_method_5_code 15 = .ok (.getfield 7, 3) := by decide +kernel
theorem d6_18 : decode prog_38_method_5_code 18 = .ok (.aload_n 2, 1) := by decide +kernel
theorem d6_19 : decode prog_38_method_5_code 19 = .ok (.getfield 7, 3) := by decide +kernel
theorem d6_22 : decode prog_38_method_5_code 22 = .ok (.invokevirtual 29, 3) := by decide +kernel
theorem d6_25 : decode prog_38_method_5_code 25 = .ok (.ifCond .eq 35, 3) := by decide +kernel
theorem d6_28 : decode prog_38_method_5_code 28 = .ok (.aload_n 0, 1) := by decide +kernel
theorem d6_29 : decode prog_38_method_5_code 29 = .ok (.getfield 13, 3) := by decide +kernel
theorem d6_32 : decode prog_38_method_5_code 32 = .ok (.aload_n 2, 1) := by decide +kernel
theorem d6_33 : decode prog_38_method_5_code 33 = .ok (.getfield 13, 3) := by decide +kernel
theorem d6_36 : decode prog_38_method_5_code 36 = .ok (.invokevirtual 29, 3) := by decide +kernel
theorem d6_39 : decode prog_38_method_5_code 39 = .ok (.ifCond .eq 21, 3) := by decide +kernel
theorem d6_42 : decode prog_38_method_5_code 42 = .ok (.aload_n 0, 1) := by decide +kernel
theorem d6_43 : decode prog_38_method_5_code 43 = .ok (.getfield 16, 3) := by decide +kernel
theorem d6_46 : decode prog_38_method_5_code 46 = .ok (.aload_n 2, 1) := by decide +kernel
theorem d6_47 : decode prog_38_method_5_code 47 = .ok (.getfield 16, 3) := by decide +kernel
theorem d6_50 : decode prog_38_method_5_code 50 = .ok (.invokevirtual 29, 3) := by decide +kernel
theorem d6_53 : decode prog_38_method_5_code 53 = .ok (.ifCond .eq 7, 3) := by decide +kernel
theorem d6_56 : decode prog_38_method_5_code 56 = .ok (.iconst 1, 1) := by decide +kernel
theorem d6_57 : decode prog_38_method_5_code 57 = .ok (.goto 4, 3) := by decide +kernel
theorem d6_61 : decode prog_38_method_5_code 61 = .ok (.ireturn, 1) := by decide +kernel
theorem d6_60 : decode prog_38_method_5_code 60 = .ok (.iconst 0, 1) := by decide +kernel
theorem d11_0 : decode method_3_code 0 = .ok (.iload_n 0, 1) := by decide +kernel
theorem d11_1 : decode method_3_code 1 = .ok (.bipush 8, 2) := by decide +kernel
theorem d11_3 : decode method_3_code 3 = .ok (.iushr, 1) := by decide +kernel
theorem d11_4 : decode method_3_code 4 = .ok (.iconst 1, 1) := by decide +kernel
theorem d11_5 : decode method_3_code 5 = .ok (.iand, 1) := by decide +kernel
theorem d11_6 : decode method_3_code 6 = .ok (.istore_n 2, 1) := by decide +kernel
theorem d11_7 : decode method_3_code 7 = .ok (.iload_n 1, 1) := by decide +kernel
theorem d11_8 : decode method_3_code 8 = .ok (.bipush 8, 2) := by decide +kernel
theorem d11_10 : decode method_3_code 10 = .ok (.iushr, 1) := by decide +kernel
theorem d11_11 : decode method_3_code 11 = .ok (.iconst 1, 1) := by decide +kernel
theorem d11_12 : decode method_3_code 12 = .ok (.iand, 1) := by decide +kernel
theorem d11_13 : decode method_3_code 13 = .ok (.istore_n 3, 1) := by decide +kernel
theorem d11_14 : decode method_3_code 14 = .ok (.iload_n 2, 1) := by decide +kernel
theorem d11_15 : decode method_3_code 15 = .ok (.iload_n 3, 1) := by decide +kernel
theorem d11_16 : decode method_3_code 16 = .ok (.if_icmp .eq 5, 3) := by decide +kernel
theorem d11_21 : decode method_3_code 21 = .ok (.iload_n 2, 1) := by decide +kernel
theorem d11_22 : decode method_3_code 22 = .ok (.ifCond .ne 5, 3) := by decide +kernel
theorem d11_27 : decode method_3_code 27 = .ok (.iload_n 0, 1) := by decide +kernel
theorem d11_28 : decode method_3_code 28 = .ok (.sipush 255, 3) := by decide +kernel
theorem d11_31 : decode method_3_code 31 = .ok (.iand, 1) := by decide +kernel
theorem d11_32 : decode method_3_code 32 = .ok (.iload_n 1, 1) := by decide +kernel
theorem d11_33 : decode method_3_code 33 = .ok (.sipush 255, 3) := by decide +kernel
theorem d11_36 : decode method_3_code 36 = .ok (.iand, 1) := by decide +kernel
theorem d11_37 : decode method_3_code 37 = .ok (.if_icmp .ne 7, 3) := by decide +kernel
theorem d11_44 : decode method_3_code 44 = .ok (.iconst 0, 1) := by decide +kernel
theorem d11_45 : decode method_3_code 45 = .ok (.ireturn, 1) := by decide +kernel
theorem d11_40 : decode method_3_code 40 = .ok (.iconst 1, 1) := by decide +kernel
theorem d11_41 : decode method_3_code 41 = .ok (.goto 4, 3) := by decide +kernel
theorem d11_25 : decode method_3_code 25 = .ok (.iconst 1, 1) := by decide +kernel
theorem d11_26 : decode method_3_code 26 = .ok (.ireturn, 1) := by decide +kernel
theorem d11_19 : decode method_3_code 19 = .ok (.iconst 0, 1) := by decide +kernel
theorem d11_20 : decode method_3_code 20 = .ok (.ireturn, 1) := by decide +kernel
theorem pd0 : parseMethodDescriptor "(C)Z" = some ⟨[.char], some .boolean⟩ := by decide +kernel
theorem pd1 : parseMethodDescriptor "(C)[B" = some ⟨[.char], some (.array .byte)⟩ := by decide +kernel
theorem pd2 : parseMethodDescriptor "([BB)V" = some ⟨[(.array .byte), .byte], none⟩ := by decide +kernel
theorem pd3 : parseMethodDescriptor "([CIILjava/lang/Void;)V" = some ⟨[(.array .char), .int, .int, (.object "java/lang/Void")], none⟩ := by decide +kernel
theorem pd4 : parseMethodDescriptor "([B[B)Z" = some ⟨[(.array .byte), (.array .byte)], some .boolean⟩ := by decide +kernel
theorem pd5 : parseMethodDescriptor "(C)Ljava/lang/String;" = some ⟨[.char], some (.object "java/lang/String")⟩ := by decide +kernel
theorem pd6 : parseMethodDescriptor "([C)V" = some ⟨[(.array .char)], none⟩ := by decide +kernel
theorem pd7 : parseMethodDescriptor "(Ljava/lang/Object;)Z" = some ⟨[(.object "java/lang/Object")], some .boolean⟩ := by decide +kernel
theorem pd8 : parseMethodDescriptor "(I)Ljava/lang/String;" = some ⟨[.int], some (.object "java/lang/String")⟩ := by decide +kernel
theorem pd9 : parseMethodDescriptor "(Ljava/lang/String;Ljava/lang/String;Ljava/lang/String;)V" = some ⟨[(.object "java/lang/String"), (.object "java/lang/String"), (.object "java/lang/String")], none⟩ := by decide +kernel
theorem pd10 : parseMethodDescriptor "(II)Z" = some ⟨[.int, .int], some .boolean⟩ := by decide +kernel
theorem pn0 : plainFor (⟨"java/lang/StringLatin1", "canEncode", "(C)Z"⟩ : MethodName) = true := plainFor_of_name (by first | (simp [plainName, overriddenIn]; done) | decide +kernel)
theorem pn1 : plainFor (⟨"java/lang/StringLatin1", "toBytes", "(C)[B"⟩ : MethodName) = true := plainFor_of_name (by first | (simp [plainName, overriddenIn]; done) | decide +kernel)
theorem pn2 : plainFor (⟨"java/lang/String", "<init>", "([BB)V"⟩ : MethodName) = true := plainFor_of_name (by first | (simp [plainName, overriddenIn]; done) | decide +kernel)
theorem pn3 : plainFor (⟨"java/lang/String", "valueOf", "(C)Ljava/lang/String;"⟩ : MethodName) = true := plainFor_of_name (by first | (simp [plainName, overriddenIn]; done) | decide +kernel)
theorem pn4 : plainFor (⟨"java/lang/String", "<init>", "([CIILjava/lang/Void;)V"⟩ : MethodName) = true := plainFor_of_name (by first | (simp [plainName, overriddenIn]; done) | decide +kernel)
theorem pn5 : plainFor (⟨"java/lang/String", "<init>", "([C)V"⟩ : MethodName) = true := plainFor_of_name (by first | (simp [plainName, overriddenIn]; done) | decide +kernel)
theorem pn6 : plainFor (⟨"java/lang/StringLatin1", "equals", "([B[B)Z"⟩ : MethodName) = true := plainFor_of_name (by first | (simp [plainName, overriddenIn]; done) | decide +kernel)
theorem pn7 : plainFor (⟨"java/lang/String", "equals", "(Ljava/lang/Object;)Z"⟩ : MethodName) = true := plainFor_of_name (by first | (simp [plainName, overriddenIn]; done) | decide +kernel)
theorem pn8 : plainFor (⟨"com/example/vestline/vestline/schema/ViolationEqualsPinLaw", "str", "(I)Ljava/lang/String;"⟩ : MethodName) = true := plainFor_of_name (by first | (simp [plainName, overriddenIn]; done) | decide +kernel)
theorem pn9 : plainFor (⟨"com/example/vestline/vestline/schema/Violation", "<init>", "(Ljava/lang/String;Ljava/lang/String;Ljava/lang/String;)V"⟩ : MethodName) = true := plainFor_of_name (by first | (simp [plainName, overriddenIn]; done) | decide +kernel)
theorem pn10 : plainFor (⟨"com/example/vestline/vestline/schema/Violation", "equals", "(Ljava/lang/Object;)Z"⟩ : MethodName) = true := plainFor_of_name (by first | (simp [plainName, overriddenIn]; done) | decide +kernel)
theorem pn11 : plainFor (⟨"com/example/vestline/vestline/schema/ViolationEqualsPinLaw", "same", "(II)Z"⟩ : MethodName) = true := plainFor_of_name (by first | (simp [plainName, overriddenIn]; done) | decide +kernel)
theorem pn12 : plainFor (⟨"com/example/vestline/vestline/schema/ViolationEqualsPinLaw", "law", "(IIII)Z"⟩ : MethodName) = true := plainFor_of_name (by first | (simp [plainName, overriddenIn]; done) | decide +kernel)
def own_str (x : Int32) : List Int32 := if x &&& (256 : Int32) = (0 : Int32) then [] else [(x &&& (255 : Int32)).toUInt32.toUInt16.toUInt32.toInt32]
def own_b (x : Int32) : Int32 := ((x.toUInt32 >>> ((8 : Int32) &&& 31).toUInt32).toInt32) &&& (1 : Int32)
def own_same (x y : Int32) : Int32 := if ((x.toUInt32 >>> ((8 : Int32) &&& 31).toUInt32).toInt32 &&& (1 : Int32)) = ((y.toUInt32 >>> ((8 : Int32) &&& 31).toUInt32).toInt32 &&& (1 : Int32)) then (if ((x.toUInt32 >>> ((8 : Int32) &&& 31).toUInt32).toInt32 &&& (1 : Int32)) = (0 : Int32) then 1 else if (x &&& (255 : Int32)) = (y &&& (255 : Int32)) then 1 else 0) else 0
theorem own_fin (x m : Int32) (n : Nat) (hm : m.toBitVec.toNat < n) : ∃ k : Fin n, x &&& m = Int32.ofNat k.val := by
  have h : (x &&& m).toBitVec.toNat < n := by
    simp only [Int32.toBitVec_and, BitVec.toNat_and]
    exact Nat.lt_of_le_of_lt Nat.and_le_right hm
  refine ⟨⟨_, h⟩, ?_⟩
  apply Int32.toBitVec_inj.mp
  show _ = BitVec.ofNat 32 _
  rw [BitVec.ofNat_toNat]; simp
theorem own_c8 (x : Int32) : ¬ ((x &&& (255 : Int32)).toUInt32.toUInt16.toUInt32.toInt32) < 0 ∧ ¬ (255 : Int32) < ((x &&& (255 : Int32)).toUInt32.toUInt16.toUInt32.toInt32) := by
  have t : ∀ k : Fin 256, ¬ ((Int32.ofNat k.val).toUInt32.toUInt16.toUInt32.toInt32) < 0 ∧ ¬ (255 : Int32) < ((Int32.ofNat k.val).toUInt32.toUInt16.toUInt32.toInt32) := by decide +kernel
  obtain ⟨k, e⟩ := own_fin x 255 256 (by decide)
  rw [e]; exact t k
theorem own_i2c (x : Int32) : (x &&& (255 : Int32)).toUInt32.toUInt16.toUInt32.toInt32 = x &&& (255 : Int32) := by
  have t : ∀ k : Fin 256, (Int32.ofNat k.val).toUInt32.toUInt16.toUInt32.toInt32 = Int32.ofNat k.val := by decide +kernel
  obtain ⟨k, e⟩ := own_fin x 255 256 (by decide)
  rw [e]; exact t k
theorem own_m {x v : Int32} (e : x &&& (511 : Int32) = v) : ∃ k : Fin 512, v = Int32.ofNat k.val := by subst e; exact own_fin x 511 512 (by decide)
theorem own_bit {x : Int32} (h : ∃ k : Fin 512, x = Int32.ofNat k.val) : ((x.toUInt32 >>> ((8 : Int32) &&& 31).toUInt32).toInt32 &&& (1 : Int32)) = if x &&& (256 : Int32) = (0 : Int32) then 0 else 1 := by
  have t : ∀ k : Fin 512, (((Int32.ofNat k.val).toUInt32 >>> ((8 : Int32) &&& 31).toUInt32).toInt32 &&& (1 : Int32)) = if (Int32.ofNat k.val) &&& (256 : Int32) = (0 : Int32) then 0 else 1 := by decide +kernel
  obtain ⟨k, rfl⟩ := h; exact t k
theorem own_eqs {x y : Int32} (hx : ∃ k : Fin 512, x = Int32.ofNat k.val) (hy : ∃ k : Fin 512, y = Int32.ofNat k.val) : own_same x y = if own_str x = own_str y then 1 else 0 := by
  unfold own_same own_str
  rw [own_bit hx, own_bit hy, own_i2c, own_i2c]
  by_cases h1 : x &&& (256 : Int32) = (0 : Int32) <;> by_cases h2 : y &&& (256 : Int32) = (0 : Int32) <;> simp [h1, h2]
theorem own_s0 {x y : Int32} (hx : ∃ k : Fin 512, x = Int32.ofNat k.val) (hy : ∃ k : Fin 512, y = Int32.ofNat k.val) (h : own_same x y = (0 : Int32)) : ¬ own_str x = own_str y := fun q => by
  rw [own_eqs hx hy, if_pos q] at h; exact absurd h (by decide)
theorem own_s1 {x y : Int32} (hx : ∃ k : Fin 512, x = Int32.ofNat k.val) (hy : ∃ k : Fin 512, y = Int32.ofNat k.val) (h : ¬ own_same x y = (0 : Int32)) : own_str x = own_str y := by
  by_cases q : own_str x = own_str y
  · exact q
  · rw [own_eqs hx hy, if_neg q] at h; exact absurd rfl h
theorem own_sym (a b c d e f : List Int32) : (if a = d ∧ b = e ∧ c = f then (1 : Int32) else 0) = (if d = a ∧ e = b ∧ f = c then (1 : Int32) else 0) := by
  by_cases h : a = d ∧ b = e ∧ c = f
  · rw [if_pos h, if_pos ⟨h.1.symm, h.2.1.symm, h.2.2.symm⟩]
  · rw [if_neg h, if_neg fun q => h ⟨q.1.symm, q.2.1.symm, q.2.2.symm⟩]
theorem own_slots {Z : State} {a0 : Array Value} (hw : ∀ d ∈ tables_1, d.before a0 Z = true) : Jvm.RoadKit.slotOf Z "java/lang/String" "coder" "B" ≠ Jvm.RoadKit.slotOf Z "java/lang/String" "value" "[B" := slot_ne (C := "java/lang/String") (a0 := a0) (Or.inr (hw _ (List.mem_of_getElem? (i := 24) rfl))) (Or.inr (hw _ (List.mem_of_getElem? (i := 23) rfl))) (by decide) (t := .byte) (t' := .array .byte) (by decide) (by decide)
theorem own_nb (x : Int32) : nar .byte x.toInt8.toInt32 = x.toInt8.toInt32 := by simp [nar]
theorem own_atoms0 {Z : State} {a0 : Array Value} (hw : ∀ d ∈ tables_1, d.before a0 Z = true) : ∀ a ∈ Bundle.stringAtoms, a.before a0 Z = true := fun d hd => hw d ((by decide +kernel : ∀ d ∈ Bundle.stringAtoms, d ∈ tables_1) d hd)
theorem own_one {cs : List Int32} (h : cs.length ≤ 1) : (cs.map fun c => c.toInt8.toInt32) = [] ∨ ∃ x, (cs.map fun c => c.toInt8.toInt32) = [x] := by
  match cs, h with
  | [], _ => exact Or.inl rfl
  | [c], _ => exact Or.inr ⟨_, rfl⟩
theorem own_len (x : Int32) : (own_str x).length ≤ 1 := by unfold own_str; split <;> simp
theorem own_laid {Z : State} {a0 : Array Value} (hw : ∀ d ∈ tables_1, d.before a0 Z = true) {f : String} (h : f = "path" ∨ f = "keyword" ∨ f = "message") : Laid Z a0 "com/example/vestline/vestline/schema/Violation" "com/example/vestline/vestline/schema/Violation" f "Ljava/lang/String;" := by
  rcases h with rfl | rfl | rfl
  · exact (Or.inr (hw _ (List.mem_of_getElem? (i := 34) rfl)))
  · exact (Or.inr (hw _ (List.mem_of_getElem? (i := 36) rfl)))
  · exact (Or.inr (hw _ (List.mem_of_getElem? (i := 38) rfl)))
theorem own_vs {Z : State} {a0 : Array Value} (hw : ∀ d ∈ tables_1, d.before a0 Z = true) {f g : String} (h : f = "path" ∨ f = "keyword" ∨ f = "message") (h' : g = "path" ∨ g = "keyword" ∨ g = "message") (hn : f ≠ g) : Jvm.RoadKit.slotOf Z "com/example/vestline/vestline/schema/Violation" f "Ljava/lang/String;" ≠ Jvm.RoadKit.slotOf Z "com/example/vestline/vestline/schema/Violation" g "Ljava/lang/String;" := slot_ne (own_laid hw h) (own_laid hw h') hn (t := .object "java/lang/String") (t' := .object "java/lang/String") (by decide) (by decide)
theorem own_no0 {Z : State} {a0 : Array Value} (hw : ∀ d ∈ tables_1, d.before a0 Z = true) : ∃ c t, Z.vm.findClass "java/lang/String" = some c ∧ Z.vm.findClass "com/example/vestline/vestline/schema/Violation" = some t ∧ Z.vm.assignable c t = false := notsub (hw _ (List.mem_of_getElem? (i := 45) rfl)) (hw _ (List.mem_of_getElem? (i := 46) rfl)) (hw _ (List.mem_of_getElem? (i := 1) rfl)) (by decide) (by decide)
set_option maxRecDepth 65536 in
set_option maxHeartbeats 40000000 in
theorem c_can (l : Launch) (Z : State) (a0 : Array Value) (hw : ∀ d ∈ tables_1, d.before a0 Z = true) (xs : List Addr) (n0 : Nat) (h : Heap) (Z0 : n0 ≤ h.size) (x : Int32) (hx : ¬ (255 : Int32) < x) :
    Ctr l Z consts_1 xs n0 (⟨"java/lang/StringLatin1", "canEncode", "(C)Z"⟩ : MethodName) jdk_43_method_3_code 1 (some .boolean) [] ({ frames := 0, cells := 0, slots := 0, locals := 0 } : Room) #[(.int x)] h (fun v h' => v = some (.int 1) ∧ h = h') := by
  refine Ctr.body pn0 ?_
  intro p e s m below meth c K
  refine Go.entry (f' := (mkF m 0 #[.val (.int x)] [])) (by first | (simp [entryFrame, mkF, argsToLocals, Value.category]; done) | rfl) ?_
  refine Go.iloadN K (q := 1) rfl d8_0 rfl ?_
  refine Go.sipush K (q := 4) rfl (v := (255 : Int32)) (by decide) d8_1 ?_
  refine Go.icmpN K (q := 7) rfl d8_4 (show ¬ (255 : Int32) < x from hx) ?_
  refine Go.iconst K (q := 8) rfl (v := (1 : Int32)) (by decide) d8_7 ?_
  refine Go.goto K (q := 12) (by decide) (by decide) d8_8 ?_
  exact Go.retN K (by simp) d8_12 (by decide) (by decide) (fun _ q => q) (⟨rfl, rfl⟩)
set_option maxRecDepth 65536 in
set_option maxHeartbeats 40000000 in
theorem c_tob (l : Launch) (Z : State) (a0 : Array Value) (hw : ∀ d ∈ tables_1, d.before a0 Z = true) (xs : List Addr) (n0 : Nat) (h : Heap) (Z0 : n0 ≤ h.size) (x : Int32) :
    Ctr l Z consts_1 xs n0 (⟨"java/lang/StringLatin1", "toBytes", "(C)[B"⟩ : MethodName) jdk_43_method_46_code 1 (some (.array .byte)) [] ({ frames := 0, cells := 1, slots := 1, locals := 0 } : Room) #[(.int x)] h (fun v h' => ∃ (t : Addr) (k : ClassId), v = some (.ref t) ∧ Ext h h' ∧ h.size ≤ t ∧ Arv Z h' t k .byte (1 : Int32) [.int (nar .byte x.toInt8.toInt32)] (.int (0 : Int32))) := by
  refine Ctr.body pn1 ?_
  intro p e s m below meth c K
  refine Go.entry (f' := (mkF m 0 #[.val (.int x)] [])) (by first | (simp [entryFrame, mkF, argsToLocals, Value.category]; done) | rfl) ?_
  have E0 := Ext.refl h
  refine Go.iconst K (q := 1) rfl (v := (1 : Int32)) (by decide) d9_0 ?_
  refine Go.newarr K (q := 3) rfl (hw _ (List.mem_of_getElem? (i := 22) rfl)) d9_1 (by decide) (cap := 1) (by decide) (by decide) (cells' := 1) (slots' := 1) rfl rfl (by decide) (by decide) ?_
  intro h2 a1 k_a1 g_a1 N_a1 V_a1
  have V_a1 : Arv Z h2 a1 k_a1 .byte (1 : Int32) [(.int (0 : Int32))] (.int (0 : Int32)) := V_a1
  have ge_E0_a1 : h.size ≤ a1 := Nat.le_trans E0.1 (Nat.le_of_eq g_a1.symm)
  have E0 := Ext.trans E0 N_a1
  have n_a1 : n0 ≤ a1 := Nat.le_trans Z0 ge_E0_a1
  refine Go.dup K (q := 4) rfl d9_3 rfl ?_
  refine Go.iconst K (q := 5) rfl (v := (0 : Int32)) (by decide) d9_4 ?_
  refine Go.iloadN K (q := 6) rfl d9_5 rfl ?_
  refine Go.i2b K (q := 7) rfl d9_6 ?_
  refine Go.bastore K (q := 8) rfl V_a1 (i := 0) d9_7 ⟨by decide, by decide⟩ rfl (Nat.le_of_ble_eq_true rfl) n_a1 List.mem_cons_self ?_
  intro h3 W4 V_a1
  have E0 := Ext.wr E0 W4 ge_E0_a1
  exact Go.retA K rfl rfl d9_8 (by decide) (by decide) (fun _ q => (List.mem_cons_of_mem _ q)) (⟨a1, k_a1, rfl, E0, ge_E0_a1, V_a1⟩)
set_option maxRecDepth 65536 in
set_option maxHeartbeats 40000000 in
theorem c_ibb (l : Launch) (Z : State) (a0 : Array Value) (hw : ∀ d ∈ tables_1, d.before a0 Z = true) (xs : List Addr) (n0 : Nat) (h : Heap) (Z0 : n0 ≤ h.size) (a t : Addr) (v0 c0 : Value) (hax : a ∈ xs) (ga : n0 ≤ a) (E : Exa Z h a "java/lang/String") (Fv : Fld Z h a "java/lang/String" "value" "[B" v0) (Fc : Fld Z h a "java/lang/String" "coder" "B" c0) :
    Ctr l Z consts_1 xs n0 (⟨"java/lang/String", "<init>", "([BB)V"⟩ : MethodName) jdk_42_method_151_code 3 none [] ({ frames := 1, cells := 0, slots := 0, locals := 12 } : Room) #[(.ref a), (.ref t), (.int (0 : Int32))] h (fun v h' => v = none ∧ Keep h h' [a] ∧ Exa Z h' a "java/lang/String" ∧ Fld Z h' a "java/lang/String" "value" "[B" (.ref t) ∧ Fld Z h' a "java/lang/String" "coder" "B" (.int (0 : Int32))) := by
  refine Ctr.body pn2 ?_
  intro p e s m below meth c K
  refine Go.entry (f' := (mkF m 0 #[.val (.ref a), .val (.ref t), .val (.int (0 : Int32))] [])) (by first | (simp [entryFrame, mkF, argsToLocals, Value.category]; done) | rfl) ?_
  have K0 := Keep.refl h [a]
  refine Go.aloadN K (q := 1) rfl d10_0 rfl rfl ?_
  refine Go.initO K (q := 4) rfl (hw _ (List.mem_of_getElem? (i := 18) rfl)) (hw _ (List.mem_of_getElem? (i := 19) rfl)) (hw _ (List.mem_of_getElem? (i := 20) rfl)) rfl d10_1 (by decide) (W := 0) (Nat.le_of_eq rfl) (by decide) ?_
  refine Go.aloadN K (q := 5) rfl d10_4 rfl rfl ?_
  refine Go.aloadN K (q := 6) rfl d10_5 rfl rfl ?_
  refine Go.putF K (q := 9) rfl (hw _ (List.mem_of_getElem? (i := 27) rfl)) Via.refl Fv E (Or.inr ⟨(hw _ (List.mem_of_getElem? (i := 23) rfl)), rfl, rfl⟩) (hw _ (List.mem_of_getElem? (i := 8) rfl)) (ty := (.array .byte)) (by decide) rfl rfl d10_6 ga hax ?_
  intro h1 W2 Fv E
  have Fc := Fc.other W2 (Or.inr (own_slots hw))
  have K0 := K0.wr W2 (Or.inl List.mem_cons_self)
  refine Go.aloadN K (q := 10) rfl d10_9 rfl rfl ?_
  refine Go.iloadN K (q := 11) rfl d10_10 rfl ?_
  refine Go.putF K (q := 14) rfl (hw _ (List.mem_of_getElem? (i := 28) rfl)) Via.refl Fc E (Or.inr ⟨(hw _ (List.mem_of_getElem? (i := 24) rfl)), rfl, rfl⟩) (hw _ (List.mem_of_getElem? (i := 8) rfl)) (ty := .byte) (by decide) rfl rfl d10_11 ga hax ?_
  intro h3 W4 Fc E
  have Fv := Fv.other W4 (Or.inr (Ne.symm (own_slots hw)))
  have K0 := K0.wr W4 (Or.inl List.mem_cons_self)
  exact Go.retV K d10_14 (by decide) (by decide) (fun _ q => q) (⟨rfl, K0, E, Fv, Fc⟩)
set_option maxRecDepth 65536 in
set_option maxHeartbeats 40000000 in
theorem c_val (l : Launch) (Z : State) (a0 : Array Value) (hw : ∀ d ∈ tables_1, d.before a0 Z = true) (xs : List Addr) (n0 : Nat) (h : Heap) (Z0 : n0 ≤ h.size) (x : Int32) (hx : ¬ x < 0 ∧ ¬ (255 : Int32) < x) (z : Int32) (Sa : Sta Z h "java/lang/String" "COMPACT_STRINGS" "Z" (.int z)) (hz : ¬ z = 0) :
    Ctr l Z consts_1 xs n0 (⟨"java/lang/String", "valueOf", "(C)Ljava/lang/String;"⟩ : MethodName) jdk_42_method_139_code 1 (some (.object "java/lang/String")) [] ({ frames := 2, cells := 2, slots := 5, locals := 27 } : Room) #[(.int x)] h (fun v h' => ∃ a, v = some (.ref a) ∧ Ext h h' ∧ Str Z h' a [x]) := by
  refine Ctr.body pn3 ?_
  intro p e s m below meth c K
  refine Go.entry (f' := (mkF m 0 #[.val (.int x)] [])) (by first | (simp [entryFrame, mkF, argsToLocals, Value.category]; done) | rfl) ?_
  have E0 := Ext.refl h
  refine Go.getS K (q := 3) rfl (hw _ (List.mem_of_getElem? (i := 50) rfl)) Via.refl (Sa) d7_0 ?_
  refine Go.ifN K (q := 6) rfl d7_3 (show ¬ z = (0 : Int32) from hz) ?_
  refine Go.iloadN K (q := 7) rfl d7_6 rfl ?_
  refine Go.cS K (q := 10) rfl (y := (⟨"java/lang/StringLatin1", "canEncode", "(C)Z"⟩ : MethodName)) (c_can l Z a0 hw xs n0 h Z0 x hx.2) (hw _ (List.mem_of_getElem? (i := 51) rfl)) (hw _ (List.mem_of_getElem? (i := 52) rfl)) (hw _ (List.mem_of_getElem? (i := 53) rfl)) (hw _ (List.mem_of_getElem? (i := 54) rfl)) (by decide) pd0 (argsL := [(.int x)]) (rest := []) rfl rfl rfl rfl (W := 0) (Nat.le_of_eq rfl) (by decide) (by decide) d7_7 (cells' := 0) (slots' := 0) rfl rfl (by decide) (by decide) ?_
  intro r2 h1 hQ sz_h1
  obtain ⟨rfl, rfl⟩ := hQ
  show Go p l e _ s m _ below meth c _ _ _ _ _ _ _ _ _ h 0 0 (mkF m 10 #[.val (.int x)] [(.int (1 : Int32))])
  refine Go.ifN K (q := 13) rfl d7_10 (show ¬ (1 : Int32) = (0 : Int32) from (by decide)) ?_
  refine Go.new K (q := 16) rfl (hw _ (List.mem_of_getElem? (i := 55) rfl)) (hw _ (List.mem_of_getElem? (i := 8) rfl)) (hw _ (List.mem_of_getElem? (i := 9) rfl)) d7_13 (cells' := 1) (slots' := 4) rfl rfl (by decide) (by decide) ?_
  intro h4 a3 g_a3 N_a3 X_a3 D_a3
  have ge_E0_a3 : h.size ≤ a3 := Nat.le_trans E0.1 (Nat.le_of_eq g_a3.symm)
  have E0 := Ext.trans E0 N_a3
  have Fv_a3 : Fld Z h4 a3 "java/lang/String" "value" "[B" .null := D_a3 (Or.inr (hw _ (List.mem_of_getElem? (i := 23) rfl))) (ty := .array .byte) (by decide)
  have Fc_a3 : Fld Z h4 a3 "java/lang/String" "coder" "B" (.int (0 : Int32)) := D_a3 (Or.inr (hw _ (List.mem_of_getElem? (i := 24) rfl))) (ty := .byte) (by decide)
  have n_a3 : n0 ≤ a3 := Nat.le_trans Z0 ge_E0_a3
  refine Go.dup K (q := 17) rfl d7_16 rfl ?_
  refine Go.iloadN K (q := 18) rfl d7_17 rfl ?_
  refine Go.cS K (q := 21) rfl (y := (⟨"java/lang/StringLatin1", "toBytes", "(C)[B"⟩ : MethodName)) (c_tob l Z a0 hw (a3 :: xs) n0 h4 (Nat.le_trans Z0 E0.1) x) (hw _ (List.mem_of_getElem? (i := 56) rfl)) (hw _ (List.mem_of_getElem? (i := 57) rfl)) (hw _ (List.mem_of_getElem? (i := 53) rfl)) (hw _ (List.mem_of_getElem? (i := 58) rfl)) (by decide) pd1 (argsL := [(.int x)]) (rest := [(.ref a3), (.ref a3)]) rfl rfl rfl rfl (W := 2) (Nat.le_of_eq rfl) (by decide) (by decide) d7_18 (cells' := 2) (slots' := 5) rfl rfl (by decide) (by decide) ?_
  intro r6 h5 hQ sz_h5
  obtain ⟨t, kt, rfl, N_t, g_t, V_t⟩ := hQ
  have E0 := Ext.trans E0 N_t
  show Go p l e _ s m _ below meth c _ _ _ _ _ _ _ _ _ h5 2 5 (mkF m 21 #[.val (.int x)] [(.ref t), (.ref a3), (.ref a3)])
  have X_a3 := X_a3.ext N_t
  have Fv_a3 := Fv_a3.ext N_t
  have Fc_a3 := Fc_a3.ext N_t
  have ne_t : t ≠ a3 := Nat.ne_of_gt (Nat.lt_of_lt_of_le (show a3 < h4.size from D_a3 (Or.inr (hw _ (List.mem_of_getElem? (i := 24) rfl))) (ty := .byte) (by decide) |>.lt) g_t)
  refine Go.iconst K (q := 22) rfl (v := (0 : Int32)) (by decide) d7_21 ?_
  refine Go.cI K (q := 25) rfl (y := (⟨"java/lang/String", "<init>", "([BB)V"⟩ : MethodName)) (c_ibb l Z a0 hw (a3 :: xs) n0 h5 (Nat.le_trans Z0 E0.1) a3 t _ _ List.mem_cons_self n_a3 X_a3 Fv_a3 Fc_a3) rfl (hw _ (List.mem_of_getElem? (i := 59) rfl)) (hw _ (List.mem_of_getElem? (i := 60) rfl)) (hw _ (List.mem_of_getElem? (i := 9) rfl)) (hw _ (List.mem_of_getElem? (i := 61) rfl)) (by decide) (a := a3) pd2 (argsL := [(.ref t), (.int (0 : Int32))]) (rest := [(.ref a3)]) rfl rfl rfl rfl (W := 1) (Nat.le_of_eq rfl) (by decide) (by decide) d7_22 (cells' := 2) (slots' := 5) rfl rfl (by decide) (by decide) ?_
  intro r8 h7 hQ sz_h7
  obtain ⟨rfl, K_x, X_x, Fv_x, Fc_x⟩ := hQ
  have E0 := Ext.keep E0 K_x (allS ge_E0_a3 all0)
  show Go p l e _ s m _ below meth c _ _ _ _ _ _ _ _ _ h7 2 5 (mkF m 25 #[.val (.int x)] [(.ref a3)])
  have V_t := V_t.keep K_x (ninS ne_t nin0)
  exact Go.retA K rfl rfl d7_25 (by decide) (by decide) (fun _ q => (List.mem_cons_of_mem _ q)) (⟨a3, rfl, E0, t, kt, 0, 1, _, X_x, Fv_x, Fc_x, V_t, Or.inl ⟨rfl, rfl, by simp [own_nb], by intro c hc; cases List.mem_singleton.mp hc; exact hx.2⟩, up16 (by intro c hc; cases List.mem_singleton.mp hc; exact hx), by simp⟩)
set_option maxRecDepth 65536 in
set_option maxHeartbeats 40000000 in
theorem c_e4 (l : Launch) (Z : State) (a0 : Array Value) (hw : ∀ d ∈ tables_1, d.before a0 Z = true) (xs : List Addr) (n0 : Nat) (h : Heap) (Z0 : n0 ≤ h.size) (a b : Addr) (v0 c0 : Value) (hax : a ∈ xs) (ga : n0 ≤ a) (E : Exa Z h a "java/lang/String") (Fv : Fld Z h a "java/lang/String" "value" "[B" v0) (Fc : Fld Z h a "java/lang/String" "coder" "B" c0) :
    Ctr l Z consts_1 xs n0 (⟨"java/lang/String", "<init>", "([CIILjava/lang/Void;)V"⟩ : MethodName) jdk_42_method_149_code 6 none [] ({ frames := 1, cells := 4, slots := 8, locals := 12 } : Room) #[(.ref a), (.ref b), (.int (0 : Int32)), (.int (0 : Int32)), .null] h (fun v h' => v = none ∧ Keep h h' [a] ∧ Str Z h' a []) := by
  refine Ctr.body pn4 ?_
  intro p e s m below meth c K
  have own_atoms := own_atoms0 hw
  refine Go.entry (f' := (mkF m 0 #[.val (.ref a), .val (.ref b), .val (.int (0 : Int32)), .val (.int (0 : Int32)), .val .null, .unset] [])) (by first | (simp [entryFrame, mkF, argsToLocals, Value.category]; done) | rfl) ?_
  have K0 := Keep.refl h [a]
  refine Go.aloadN K (q := 1) rfl d3_0 rfl rfl ?_
  refine Go.initO K (q := 4) rfl (hw _ (List.mem_of_getElem? (i := 18) rfl)) (hw _ (List.mem_of_getElem? (i := 19) rfl)) (hw _ (List.mem_of_getElem? (i := 20) rfl)) rfl d3_1 (by decide) (W := 0) (Nat.le_of_eq rfl) (by decide) ?_
  refine Go.iloadN K (q := 5) rfl d3_4 rfl ?_
  refine Go.ifN K (q := 8) rfl d3_5 (show (0 : Int32) = (0 : Int32) from rfl) ?_
  refine Go.aloadN K (q := 9) rfl d3_8 rfl rfl ?_
  refine Go.ldcS K (q := 11) rfl (text := "") (by decide) (hw _ (List.mem_of_getElem? (i := 21) rfl)) own_atoms (by decide) d3_9 (n := 0) (by decide) (by decide) (cells' := 2) (slots' := 4) rfl rfl (by decide) (by decide) ?_
  intro h1 s2 N_s2 T_s2
  have K0 := K0.ext N_s2
  have E := E.ext N_s2
  have Fv := Fv.ext N_s2
  have Fc := Fc.ext N_s2
  obtain ⟨us1, hu1, t1, kb1, L1_1, L2_1, L3_1, L4_1, L5_1, L6_1⟩ := T_s2
  refine Go.getF K (q := 14) rfl (hw _ (List.mem_of_getElem? (i := 27) rfl)) Via.refl (L2_1) d3_11 ?_
  have S1 : Str Z h1 s2 (chs "") := Str.lit (by decide) (by decide) ⟨us1, hu1, t1, kb1, L1_1, L2_1, L3_1, L4_1, L5_1, L6_1⟩
  refine Go.putF K (q := 17) rfl (hw _ (List.mem_of_getElem? (i := 27) rfl)) Via.refl Fv E (Or.inr ⟨(hw _ (List.mem_of_getElem? (i := 23) rfl)), rfl, rfl⟩) (hw _ (List.mem_of_getElem? (i := 8) rfl)) (ty := (.array .byte)) (by decide) rfl rfl d3_14 ga hax ?_
  intro h3 W4 Fv E
  have Fc := Fc.other W4 (Or.inr (own_slots hw))
  have K0 := K0.wr W4 (Or.inl List.mem_cons_self)
  have A4 := L4_1.other W4 (fun q => L6_1 (q ▸ hax))
  refine Go.aloadN K (q := 18) rfl d3_17 rfl rfl ?_
  refine Go.ldcS K (q := 20) rfl (text := "") (by decide) (hw _ (List.mem_of_getElem? (i := 21) rfl)) own_atoms (by decide) d3_18 (n := 0) (by decide) (by decide) (cells' := 4) (slots' := 8) rfl rfl (by decide) (by decide) ?_
  intro h5 s6 N_s6 T_s6
  have K0 := K0.ext N_s6
  have E := E.ext N_s6
  have Fv := Fv.ext N_s6
  have Fc := Fc.ext N_s6
  obtain ⟨us2, hu2, t2, kb2, L1_2, L2_2, L3_2, L4_2, L5_2, L6_2⟩ := T_s6
  have A4 := A4.ext N_s6
  refine Go.getF K (q := 23) rfl (hw _ (List.mem_of_getElem? (i := 28) rfl)) Via.refl (L3_2) d3_20 ?_
  refine Go.putF K (q := 26) rfl (hw _ (List.mem_of_getElem? (i := 28) rfl)) Via.refl Fc E (Or.inr ⟨(hw _ (List.mem_of_getElem? (i := 24) rfl)), rfl, rfl⟩) (hw _ (List.mem_of_getElem? (i := 8) rfl)) (ty := .byte) (by decide) rfl rfl d3_23 ga hax ?_
  intro h7 W8 Fc E
  have Fv := Fv.other W8 (Or.inr (Ne.symm (own_slots hw)))
  have K0 := K0.wr W8 (Or.inl List.mem_cons_self)
  have A4 := A4.other W8 (fun q => L6_1 (q ▸ hax))
  have us0 : us1.size = 0 := by rw [← Array.length_toList, Jvm.ClassFile.units_of_text hu1 (by decide)]; rfl
  have ut0 : us1.toList = [] := by rw [Jvm.ClassFile.units_of_text hu1 (by decide)]; rfl
  rw [us0, ut0] at A4
  exact Go.retV K d3_26 (by decide) (by decide) (fun _ q => q) (⟨rfl, K0, t1, kb1, 0, 0, [], E, Fv, Fc, A4, Or.inl ⟨rfl, rfl, rfl, by intro c hc; cases hc⟩, (by intro c hc; cases hc), by decide⟩)
set_option maxRecDepth 65536 in
set_option maxHeartbeats 40000000 in
theorem c_e1 (l : Launch) (Z : State) (a0 : Array Value) (hw : ∀ d ∈ tables_1, d.before a0 Z = true) (xs : List Addr) (n0 : Nat) (h : Heap) (Z0 : n0 ≤ h.size) (a b : Addr) (kb : ClassId) (dv v0 c0 : Value) (hax : a ∈ xs) (ga : n0 ≤ a) (E : Exa Z h a "java/lang/String") (Fv : Fld Z h a "java/lang/String" "value" "[B" v0) (Fc : Fld Z h a "java/lang/String" "coder" "B" c0) (V : Arv Z h b kb .char (0 : Int32) [] dv) :
    Ctr l Z consts_1 xs n0 (⟨"java/lang/String", "<init>", "([C)V"⟩ : MethodName) jdk_42_method_3_code 2 none [] ({ frames := 2, cells := 4, slots := 8, locals := 29 } : Room) #[(.ref a), (.ref b)] h (fun v h' => v = none ∧ Keep h h' [a] ∧ Str Z h' a []) := by
  refine Ctr.body pn5 ?_
  intro p e s m below meth c K
  refine Go.entry (f' := (mkF m 0 #[.val (.ref a), .val (.ref b)] [])) (by first | (simp [entryFrame, mkF, argsToLocals, Value.category]; done) | rfl) ?_
  refine Go.aloadN K (q := 1) rfl d2_0 rfl rfl ?_
  refine Go.aloadN K (q := 2) rfl d2_1 rfl rfl ?_
  refine Go.iconst K (q := 3) rfl (v := (0 : Int32)) (by decide) d2_2 ?_
  refine Go.aloadN K (q := 4) rfl d2_3 rfl rfl ?_
  refine Go.alen K (q := 5) rfl V d2_4 ?_
  refine Go.aconstNull K (q := 6) rfl d2_5 ?_
  show Go p l e _ s m _ below meth c _ _ _ _ _ _ _ _ _ h 0 0 (mkF m 6 #[.val (.ref a), .val (.ref b)] [.null, (.int (0 : Int32)), (.int (0 : Int32)), (.ref b), (.ref a)])
  refine Go.cI K (q := 9) rfl (y := (⟨"java/lang/String", "<init>", "([CIILjava/lang/Void;)V"⟩ : MethodName)) (c_e4 l Z a0 hw xs n0 h Z0 a b _ _ hax ga E Fv Fc) rfl (hw _ (List.mem_of_getElem? (i := 14) rfl)) (hw _ (List.mem_of_getElem? (i := 15) rfl)) (hw _ (List.mem_of_getElem? (i := 9) rfl)) (hw _ (List.mem_of_getElem? (i := 17) rfl)) (by decide) (a := a) pd3 (argsL := [(.ref b), (.int (0 : Int32)), (.int (0 : Int32)), .null]) (rest := []) rfl rfl rfl rfl (W := 0) (Nat.le_of_eq rfl) (by decide) (by decide) d2_6 (cells' := 4) (slots' := 8) rfl rfl (by decide) (by decide) ?_
  intro r2 h1 hQ sz_h1
  obtain ⟨rfl, K0, S0⟩ := hQ
  show Go p l e _ s m _ below meth c _ _ _ _ _ _ _ _ _ h1 4 8 (mkF m 9 #[.val (.ref a), .val (.ref b)] [])
  exact Go.retV K d2_9 (by decide) (by decide) (fun _ q => q) (⟨rfl, K0, S0⟩)
set_option maxRecDepth 65536 in
set_option maxHeartbeats 40000000 in
theorem c_leq (l : Launch) (Z : State) (a0 : Array Value) (hw : ∀ d ∈ tables_1, d.before a0 Z = true) (xs : List Addr) (n0 : Nat) (h : Heap) (Z0 : n0 ≤ h.size) (t u : Addr) (kt ku : ClassId) (us vs : List Int32) (hu : us = [] ∨ ∃ x, us = [x]) (hv : vs = [] ∨ ∃ y, vs = [y]) (V : Arv Z h t kt .byte (Int32.ofNat us.length) (us.map Value.int) (.int 0)) (U : Arv Z h u ku .byte (Int32.ofNat vs.length) (vs.map Value.int) (.int 0)) :
    Ctr l Z consts_1 xs n0 (⟨"java/lang/StringLatin1", "equals", "([B[B)Z"⟩ : MethodName) jdk_43_method_13_code 3 (some .boolean) [] ({ frames := 0, cells := 0, slots := 0, locals := 0 } : Room) #[(.ref t), (.ref u)] h (fun v h' => v = some (.int (if us = vs then 1 else 0)) ∧ h = h') := by
  refine Ctr.body pn6 ?_
  intro p e s m below meth c K
  refine Go.entry (f' := (mkF m 0 #[.val (.ref t), .val (.ref u), .unset] [])) (by first | (simp [entryFrame, mkF, argsToLocals, Value.category]; done) | rfl) ?_
  rcases hu with rfl | ⟨x, rfl⟩ <;> rcases hv with rfl | ⟨y, rfl⟩
  · skip
    have V : Arv Z h t kt .byte (0 : Int32) [] (.int (0 : Int32)) := V
    have U : Arv Z h u ku .byte (0 : Int32) [] (.int (0 : Int32)) := U
    refine Go.aloadN K (q := 1) rfl d13_0 rfl rfl ?_
    refine Go.alen K (q := 2) rfl V d13_1 ?_
    refine Go.aloadN K (q := 3) rfl d13_2 rfl rfl ?_
    refine Go.alen K (q := 4) rfl U d13_3 ?_
    refine Go.icmpN K (q := 7) rfl d13_4 (show (0 : Int32) = (0 : Int32) from rfl) ?_
    refine Go.iconst K (q := 8) rfl (v := (0 : Int32)) (by decide) d13_7 ?_
    refine Go.istoreN K (q := 9) rfl (L' := #[.val (.ref t), .val (.ref u), .val (.int (0 : Int32))]) d13_8 rfl ?_
    refine Go.iloadN K (q := 10) rfl d13_9 rfl ?_
    refine Go.aloadN K (q := 11) rfl d13_10 rfl rfl ?_
    refine Go.alen K (q := 12) rfl V d13_11 ?_
    refine Go.icmpY K (q := 32) (by decide) (by decide) d13_12 (show ¬ (0 : Int32) < (0 : Int32) from (by decide)) ?_
    refine Go.iconst K (q := 33) rfl (v := (1 : Int32)) (by decide) d13_32 ?_
    exact Go.retN K (by simp) d13_33 (by decide) (by decide) (fun _ q => q) (⟨rfl, rfl⟩)
  · skip
    have V : Arv Z h t kt .byte (0 : Int32) [] (.int (0 : Int32)) := V
    have U : Arv Z h u ku .byte (1 : Int32) [.int y] (.int (0 : Int32)) := U
    refine Go.aloadN K (q := 1) rfl d13_0 rfl rfl ?_
    refine Go.alen K (q := 2) rfl V d13_1 ?_
    refine Go.aloadN K (q := 3) rfl d13_2 rfl rfl ?_
    refine Go.alen K (q := 4) rfl U d13_3 ?_
    refine Go.icmpY K (q := 34) (by decide) (by decide) d13_4 (show ¬ (0 : Int32) = (1 : Int32) from (by decide)) ?_
    refine Go.iconst K (q := 35) rfl (v := (0 : Int32)) (by decide) d13_34 ?_
    exact Go.retN K (by simp) d13_35 (by decide) (by decide) (fun _ q => q) (⟨by rw [if_neg (by simp)]; rfl, rfl⟩)
  · skip
    have V : Arv Z h t kt .byte (1 : Int32) [.int x] (.int (0 : Int32)) := V
    have U : Arv Z h u ku .byte (0 : Int32) [] (.int (0 : Int32)) := U
    refine Go.aloadN K (q := 1) rfl d13_0 rfl rfl ?_
    refine Go.alen K (q := 2) rfl V d13_1 ?_
    refine Go.aloadN K (q := 3) rfl d13_2 rfl rfl ?_
    refine Go.alen K (q := 4) rfl U d13_3 ?_
    refine Go.icmpY K (q := 34) (by decide) (by decide) d13_4 (show ¬ (1 : Int32) = (0 : Int32) from (by decide)) ?_
    refine Go.iconst K (q := 35) rfl (v := (0 : Int32)) (by decide) d13_34 ?_
    exact Go.retN K (by simp) d13_35 (by decide) (by decide) (fun _ q => q) (⟨by rw [if_neg (by simp)]; rfl, rfl⟩)
  · skip
    have V : Arv Z h t kt .byte (1 : Int32) [.int x] (.int (0 : Int32)) := V
    have U : Arv Z h u ku .byte (1 : Int32) [.int y] (.int (0 : Int32)) := U
    refine Go.aloadN K (q := 1) rfl d13_0 rfl rfl ?_
    refine Go.alen K (q := 2) rfl V d13_1 ?_
    refine Go.aloadN K (q := 3) rfl d13_2 rfl rfl ?_
    refine Go.alen K (q := 4) rfl U d13_3 ?_
    refine Go.icmpN K (q := 7) rfl d13_4 (show (1 : Int32) = (1 : Int32) from rfl) ?_
    refine Go.iconst K (q := 8) rfl (v := (0 : Int32)) (by decide) d13_7 ?_
    refine Go.istoreN K (q := 9) rfl (L' := #[.val (.ref t), .val (.ref u), .val (.int (0 : Int32))]) d13_8 rfl ?_
    refine Go.iloadN K (q := 10) rfl d13_9 rfl ?_
    refine Go.aloadN K (q := 11) rfl d13_10 rfl rfl ?_
    refine Go.alen K (q := 12) rfl V d13_11 ?_
    refine Go.icmpN K (q := 15) rfl d13_12 (show (0 : Int32) < (1 : Int32) from (by decide)) ?_
    refine Go.aloadN K (q := 16) rfl d13_15 rfl rfl ?_
    refine Go.iloadN K (q := 17) rfl d13_16 rfl ?_
    refine Go.baload K (q := 18) rfl V d13_17 ⟨by decide, by decide⟩ (v := (.int x)) rfl ?_
    refine Go.aloadN K (q := 19) rfl d13_18 rfl rfl ?_
    refine Go.iloadN K (q := 20) rfl d13_19 rfl ?_
    refine Go.baload K (q := 21) rfl U d13_20 ⟨by decide, by decide⟩ (v := (.int y)) rfl ?_
    refine Go.icmp K (q := 26) (q' := 24) (by decide) (by decide) rfl d13_21 (fun (hxy : x = y) => ?_) (fun (hxy : ¬ x = y) => ?_)
    · skip
      refine Go.iinc K (q := 29) rfl (L' := #[.val (.ref t), .val (.ref u), .val (.int ((0 : Int32) + (1 : Int32)))]) (y := (1 : Int32)) (by decide) d13_26 rfl rfl ?_
      refine Go.goto K (q := 9) (by decide) (by decide) d13_29 ?_
      refine Go.iloadN K (q := 10) rfl d13_9 rfl ?_
      refine Go.aloadN K (q := 11) rfl d13_10 rfl rfl ?_
      refine Go.alen K (q := 12) rfl V d13_11 ?_
      refine Go.icmpY K (q := 32) (by decide) (by decide) d13_12 (show ¬ ((0 : Int32) + (1 : Int32)) < (1 : Int32) from (by decide)) ?_
      refine Go.iconst K (q := 33) rfl (v := (1 : Int32)) (by decide) d13_32 ?_
      exact Go.retN K (by simp) d13_33 (by decide) (by decide) (fun _ q => q) (⟨by rw [if_pos (by rw [hxy])]; rfl, rfl⟩)
    · skip
      refine Go.iconst K (q := 25) rfl (v := (0 : Int32)) (by decide) d13_24 ?_
      exact Go.retN K (by simp) d13_25 (by decide) (by decide) (fun _ q => q) (⟨by rw [if_neg (by simpa using hxy)]; rfl, rfl⟩)
set_option maxRecDepth 65536 in
set_option maxHeartbeats 40000000 in
theorem c_seq (l : Launch) (Z : State) (a0 : Array Value) (hw : ∀ d ∈ tables_1, d.before a0 Z = true) (xs : List Addr) (n0 : Nat) (h : Heap) (Z0 : n0 ≤ h.size) (a b : Addr) (cs ds : List Int32) (z : Int32) (Sa : Sta Z h "java/lang/String" "COMPACT_STRINGS" "Z" (.int z)) (hz : ¬ z = 0) (F : Str Z h a cs) (G : Str Z h b ds) (hc : cs.length ≤ 1) (hd : ds.length ≤ 1) :
    Ctr l Z consts_1 xs n0 (⟨"java/lang/String", "equals", "(Ljava/lang/Object;)Z"⟩ : MethodName) jdk_42_method_66_code 3 (some .boolean) [] ({ frames := 1, cells := 0, slots := 0, locals := 14 } : Room) #[(.ref a), (.ref b)] h (fun v h' => v = some (.int (if cs = ds then 1 else 0)) ∧ h = h') := by
  refine Ctr.body pn7 ?_
  intro p e s m below meth c K
  refine Go.entry (f' := (mkF m 0 #[.val (.ref a), .val (.ref b), .unset] [])) (by first | (simp [entryFrame, mkF, argsToLocals, Value.category]; done) | rfl) ?_
  refine Go.aloadN K (q := 1) rfl d12_0 rfl rfl ?_
  refine Go.aloadN K (q := 2) rfl d12_1 rfl rfl ?_
  by_cases hab : a = b
  · skip
    refine Go.acmp K (q := 5) rfl rfl (same := true) (decide_eq_true (congrArg Value.ref hab)) (by decide) (by decide) d12_2 ?_
    refine Go.iconst K (q := 6) rfl (v := (1 : Int32)) (by decide) d12_5 ?_
    subst hab
    exact Go.retN K (by simp) d12_6 (by decide) (by decide) (fun _ q => q) (⟨by rw [if_pos (F.uniq G)]; rfl, rfl⟩)
  · skip
    refine Go.acmp K (q := 7) rfl rfl (same := false) (decide_eq_false fun q => hab (Value.ref.inj q)) (by decide) (by decide) d12_2 ?_
    refine Go.aloadN K (q := 8) rfl d12_7 rfl rfl ?_
    have F0 := F
    have G0 := G
    obtain ⟨t, kb, cd, N2, vs, f1, f2, f3, f4, f5, f6, f7⟩ := F
    obtain ⟨t', kb', cd', N2', vs', g1, g2, g3, g4, g5, g6, g7⟩ := G
    rcases f5 with ⟨rfl, rfl, rfl, hb⟩ | z
    case inr => exact z.elim
    rcases g5 with ⟨rfl, rfl, rfl, hb'⟩ | z
    case inr => exact z.elim
    have V : Arv Z h t kb .byte (Int32.ofNat (cs.map fun c => c.toInt8.toInt32).length) ((cs.map fun c => c.toInt8.toInt32).map Value.int) (.int 0) := by rw [List.length_map, List.map_map]; exact f4
    have U : Arv Z h t' kb' .byte (Int32.ofNat (ds.map fun c => c.toInt8.toInt32).length) ((ds.map fun c => c.toInt8.toInt32).map Value.int) (.int 0) := by rw [List.length_map, List.map_map]; exact g4
    have hq : (cs.map fun c => c.toInt8.toInt32) = (ds.map fun c => c.toInt8.toInt32) ↔ cs = ds := ⟨lo8_list cs ds (fun c hc => ⟨(f6 c hc).1, hb c hc⟩) (fun c hc => ⟨(g6 c hc).1, hb' c hc⟩), fun e => by rw [e]⟩
    refine Go.instY K (q := 11) rfl (hw _ (List.mem_of_getElem? (i := 55) rfl)) (Ins.self g1) d12_8 ?_
    refine Go.ifN K (q := 14) rfl d12_11 (show ¬ (1 : Int32) = (0 : Int32) from (by decide)) ?_
    refine Go.aloadN K (q := 15) rfl d12_14 rfl rfl ?_
    refine Go.castY K (q := 18) rfl (hw _ (List.mem_of_getElem? (i := 55) rfl)) (Ins.self g1) d12_15 ?_
    refine Go.astoreN K (q := 19) rfl (L' := #[.val (.ref a), .val (.ref b), .val (.ref b)]) d12_18 rfl rfl ?_
    refine Go.getS K (q := 22) rfl (hw _ (List.mem_of_getElem? (i := 50) rfl)) Via.refl (Sa) d12_19 ?_
    refine Go.ifN K (q := 25) rfl d12_22 (show ¬ z = (0 : Int32) from hz) ?_
    refine Go.aloadN K (q := 26) rfl d12_25 rfl rfl ?_
    refine Go.getF K (q := 29) rfl (hw _ (List.mem_of_getElem? (i := 28) rfl)) Via.refl (f3) d12_26 ?_
    refine Go.aloadN K (q := 30) rfl d12_29 rfl rfl ?_
    refine Go.getF K (q := 33) rfl (hw _ (List.mem_of_getElem? (i := 28) rfl)) Via.refl (g3) d12_30 ?_
    refine Go.icmpN K (q := 36) rfl d12_33 (show (0 : Int32) = (0 : Int32) from rfl) ?_
    refine Go.aloadN K (q := 37) rfl d12_36 rfl rfl ?_
    refine Go.getF K (q := 40) rfl (hw _ (List.mem_of_getElem? (i := 27) rfl)) Via.refl (f2) d12_37 ?_
    refine Go.aloadN K (q := 41) rfl d12_40 rfl rfl ?_
    refine Go.getF K (q := 44) rfl (hw _ (List.mem_of_getElem? (i := 27) rfl)) Via.refl (g2) d12_41 ?_
    show Go p l e _ s m _ below meth c _ _ _ _ _ _ _ _ _ h 0 0 (mkF m 44 #[.val (.ref a), .val (.ref b), .val (.ref b)] [(.ref t'), (.ref t)])
    refine Go.cS K (q := 47) rfl (y := (⟨"java/lang/StringLatin1", "equals", "([B[B)Z"⟩ : MethodName)) (c_leq l Z a0 hw xs n0 h Z0 t t' _ _ _ _ (own_one hc) (own_one hd) V U) (hw _ (List.mem_of_getElem? (i := 71) rfl)) (hw _ (List.mem_of_getElem? (i := 72) rfl)) (hw _ (List.mem_of_getElem? (i := 53) rfl)) (hw _ (List.mem_of_getElem? (i := 73) rfl)) (by decide) pd4 (argsL := [(.ref t), (.ref t')]) (rest := []) rfl rfl rfl rfl (W := 0) (Nat.le_of_eq rfl) (by decide) (by decide) d12_44 (cells' := 0) (slots' := 0) rfl rfl (by decide) (by decide) ?_
    intro r2 h1 hQ sz_h1
    obtain ⟨rfl, rfl⟩ := hQ
    show Go p l e _ s m _ below meth c _ _ _ _ _ _ _ _ _ h 0 0 (mkF m 47 #[.val (.ref a), .val (.ref b), .val (.ref b)] [(.int (if (cs.map fun c => c.toInt8.toInt32) = (ds.map fun c => c.toInt8.toInt32) then 1 else 0))])
    by_cases he : cs = ds
    · skip
      rw [if_pos (hq.mpr he)]
      refine Go.ifN K (q := 50) rfl d12_47 (show ¬ (1 : Int32) = (0 : Int32) from (by decide)) ?_
      refine Go.iconst K (q := 51) rfl (v := (1 : Int32)) (by decide) d12_50 ?_
      refine Go.goto K (q := 55) (by decide) (by decide) d12_51 ?_
      exact Go.retN K (by simp) d12_55 (by decide) (by decide) (fun _ q => q) (⟨by rw [if_pos he]; rfl, rfl⟩)
    · skip
      rw [if_neg (fun q => he (hq.mp q))]
      refine Go.ifY K (q := 54) (by decide) (by decide) d12_47 (show (0 : Int32) = (0 : Int32) from rfl) ?_
      refine Go.iconst K (q := 55) rfl (v := (0 : Int32)) (by decide) d12_54 ?_
      exact Go.retN K (by simp) d12_55 (by decide) (by decide) (fun _ q => q) (⟨by rw [if_neg he]; rfl, rfl⟩)
set_option maxRecDepth 65536 in
set_option maxHeartbeats 40000000 in
theorem c_str (l : Launch) (Z : State) (a0 : Array Value) (hw : ∀ d ∈ tables_1, d.before a0 Z = true) (xs : List Addr) (n0 : Nat) (h : Heap) (Z0 : n0 ≤ h.size) (x : Int32) (z : Int32) (Sa : Sta Z h "java/lang/String" "COMPACT_STRINGS" "Z" (.int z)) (hz : ¬ z = 0) :
    Ctr l Z consts_1 xs n0 (⟨"com/example/vestline/vestline/schema/ViolationEqualsPinLaw", "str", "(I)Ljava/lang/String;"⟩ : MethodName) method_2_code 1 (some (.object "java/lang/String")) [] ({ frames := 3, cells := 6, slots := 12, locals := 43 } : Room) #[(.int x)] h (fun v h' => ∃ a, v = some (.ref a) ∧ Ext h h' ∧ Str Z h' a (own_str x)) := by
  refine Ctr.body pn8 ?_
  intro p e s m below meth c K
  refine Go.entry (f' := (mkF m 0 #[.val (.int x)] [])) (by first | (simp [entryFrame, mkF, argsToLocals, Value.category]; done) | rfl) ?_
  have E0 := Ext.refl h
  refine Go.iloadN K (q := 1) rfl d1_0 rfl ?_
  refine Go.sipush K (q := 4) rfl (v := (256 : Int32)) (by decide) d1_1 ?_
  refine Go.iand K (q := 5) rfl d1_4 ?_
  refine Go.ifc K (q := 19) (q' := 8) (by decide) (by decide) rfl d1_5 (fun (hc : ¬ (x &&& (256 : Int32)) = (0 : Int32)) => ?_) (fun (hc : (x &&& (256 : Int32)) = (0 : Int32)) => ?_)
  · skip
    refine Go.iloadN K (q := 20) rfl d1_19 rfl ?_
    refine Go.sipush K (q := 23) rfl (v := (255 : Int32)) (by decide) d1_20 ?_
    refine Go.iand K (q := 24) rfl d1_23 ?_
    refine Go.i2c K (q := 25) rfl d1_24 ?_
    refine Go.cS K (q := 28) rfl (y := (⟨"java/lang/String", "valueOf", "(C)Ljava/lang/String;"⟩ : MethodName)) (c_val l Z a0 hw xs n0 h Z0 (x &&& (255 : Int32)).toUInt32.toUInt16.toUInt32.toInt32 (own_c8 x) z Sa hz) (hw _ (List.mem_of_getElem? (i := 47) rfl)) (hw _ (List.mem_of_getElem? (i := 48) rfl)) (hw _ (List.mem_of_getElem? (i := 9) rfl)) (hw _ (List.mem_of_getElem? (i := 49) rfl)) (by decide) pd5 (argsL := [(.int (x &&& (255 : Int32)).toUInt32.toUInt16.toUInt32.toInt32)]) (rest := []) rfl rfl rfl rfl (W := 0) (Nat.le_of_eq rfl) (by decide) (by decide) d1_25 (cells' := 2) (slots' := 5) rfl rfl (by decide) (by decide) ?_
    intro r2 h1 hQ sz_h1
    obtain ⟨a, rfl, N_a, S_a⟩ := hQ
    have E0 := Ext.trans E0 N_a
    show Go p l e _ s m _ below meth c _ _ _ _ _ _ _ _ _ h1 2 5 (mkF m 28 #[.val (.int x)] [(.ref a)])
    exact Go.retA K rfl rfl d1_28 (by decide) (by decide) (fun _ q => q) (⟨a, rfl, E0, by rw [own_str, if_neg hc]; exact S_a⟩)
  · skip
    refine Go.new K (q := 11) rfl (hw _ (List.mem_of_getElem? (i := 7) rfl)) (hw _ (List.mem_of_getElem? (i := 8) rfl)) (hw _ (List.mem_of_getElem? (i := 9) rfl)) d1_8 (cells' := 1) (slots' := 4) rfl rfl (by decide) (by decide) ?_
    intro h4 a3 g_a3 N_a3 X_a3 D_a3
    have ge_E0_a3 : h.size ≤ a3 := Nat.le_trans E0.1 (Nat.le_of_eq g_a3.symm)
    have E0 := Ext.trans E0 N_a3
    have Fv_a3 : Fld Z h4 a3 "java/lang/String" "value" "[B" .null := D_a3 (Or.inr (hw _ (List.mem_of_getElem? (i := 23) rfl))) (ty := .array .byte) (by decide)
    have Fc_a3 : Fld Z h4 a3 "java/lang/String" "coder" "B" (.int (0 : Int32)) := D_a3 (Or.inr (hw _ (List.mem_of_getElem? (i := 24) rfl))) (ty := .byte) (by decide)
    have n_a3 : n0 ≤ a3 := Nat.le_trans Z0 ge_E0_a3
    refine Go.dup K (q := 12) rfl d1_11 rfl ?_
    refine Go.iconst K (q := 13) rfl (v := (0 : Int32)) (by decide) d1_12 ?_
    refine Go.newarr K (q := 15) rfl (hw _ (List.mem_of_getElem? (i := 10) rfl)) d1_13 (by decide) (cap := 0) (by decide) (by decide) (cells' := 2) (slots' := 4) rfl rfl (by decide) (by decide) ?_
    intro h6 a5 k_a5 g_a5 N_a5 V_a5
    have V_a5 : Arv Z h6 a5 k_a5 .char (0 : Int32) [] (.int (0 : Int32)) := V_a5
    have ge_E0_a5 : h.size ≤ a5 := Nat.le_trans E0.1 (Nat.le_of_eq g_a5.symm)
    have E0 := Ext.trans E0 N_a5
    have X_a3 := X_a3.ext N_a5
    have Fv_a3 := Fv_a3.ext N_a5
    have Fc_a3 := Fc_a3.ext N_a5
    refine Go.cI K (q := 18) rfl (y := (⟨"java/lang/String", "<init>", "([C)V"⟩ : MethodName)) (c_e1 l Z a0 hw (a5 :: a3 :: xs) n0 h6 (Nat.le_trans Z0 E0.1) a3 a5 _ _ _ _ (List.mem_cons_of_mem _ List.mem_cons_self) n_a3 X_a3 Fv_a3 Fc_a3 V_a5) rfl (hw _ (List.mem_of_getElem? (i := 11) rfl)) (hw _ (List.mem_of_getElem? (i := 12) rfl)) (hw _ (List.mem_of_getElem? (i := 9) rfl)) (hw _ (List.mem_of_getElem? (i := 13) rfl)) (by decide) (a := a3) pd6 (argsL := [(.ref a5)]) (rest := [(.ref a3)]) rfl rfl rfl rfl (W := 1) (Nat.le_of_eq rfl) (by decide) (by decide) d1_15 (cells' := 6) (slots' := 12) rfl rfl (by decide) (by decide) ?_
    intro r9 h8 hQ sz_h8
    obtain ⟨rfl, K7, S_a3⟩ := hQ
    have E0 := Ext.keep E0 K7 (allS ge_E0_a3 all0)
    show Go p l e _ s m _ below meth c _ _ _ _ _ _ _ _ _ h8 6 12 (mkF m 18 #[.val (.int x)] [(.ref a3)])
    exact Go.retA K rfl rfl d1_18 (by decide) (by decide) (fun _ q => (List.mem_cons_of_mem _ (List.mem_cons_of_mem _ q))) (⟨a3, rfl, E0, by rw [own_str, if_pos hc]; exact S_a3⟩)
set_option maxRecDepth 65536 in
set_option maxHeartbeats 40000000 in
theorem c_vi (l : Launch) (Z : State) (a0 : Array Value) (hw : ∀ d ∈ tables_1, d.before a0 Z = true) (xs : List Addr) (n0 : Nat) (h : Heap) (Z0 : n0 ≤ h.size) (a s1 s2 s3 : Addr) (hax : a ∈ xs) (ga : n0 ≤ a) (E : Exa Z h a "com/example/vestline/vestline/schema/Violation") (F0 : Fld Z h a "com/example/vestline/vestline/schema/Violation" "path" "Ljava/lang/String;" .null) (F1 : Fld Z h a "com/example/vestline/vestline/schema/Violation" "keyword" "Ljava/lang/String;" .null) (F2 : Fld Z h a "com/example/vestline/vestline/schema/Violation" "message" "Ljava/lang/String;" .null) :
    Ctr l Z consts_1 xs n0 (⟨"com/example/vestline/vestline/schema/Violation", "<init>", "(Ljava/lang/String;Ljava/lang/String;Ljava/lang/String;)V"⟩ : MethodName) prog_38_method_1_code 4 none [] ({ frames := 1, cells := 0, slots := 0, locals := 12 } : Room) #[(.ref a), (.ref s1), (.ref s2), (.ref s3)] h (fun v h' => v = none ∧ Keep h h' [a] ∧ Exa Z h' a "com/example/vestline/vestline/schema/Violation" ∧ Fld Z h' a "com/example/vestline/vestline/schema/Violation" "path" "Ljava/lang/String;" (.ref s1) ∧ Fld Z h' a "com/example/vestline/vestline/schema/Violation" "keyword" "Ljava/lang/String;" (.ref s2) ∧ Fld Z h' a "com/example/vestline/vestline/schema/Violation" "message" "Ljava/lang/String;" (.ref s3)) := by
  refine Ctr.body pn9 ?_
  intro p e s m below meth c K
  refine Go.entry (f' := (mkF m 0 #[.val (.ref a), .val (.ref s1), .val (.ref s2), .val (.ref s3)] [])) (by first | (simp [entryFrame, mkF, argsToLocals, Value.category]; done) | rfl) ?_
  have K0 := Keep.refl h [a]
  refine Go.aloadN K (q := 1) rfl d5_0 rfl rfl ?_
  refine Go.initO K (q := 4) rfl (hw _ (List.mem_of_getElem? (i := 32) rfl)) (hw _ (List.mem_of_getElem? (i := 19) rfl)) (hw _ (List.mem_of_getElem? (i := 20) rfl)) rfl d5_1 (by decide) (W := 0) (Nat.le_of_eq rfl) (by decide) ?_
  refine Go.aloadN K (q := 5) rfl d5_4 rfl rfl ?_
  refine Go.aloadN K (q := 6) rfl d5_5 rfl rfl ?_
  refine Go.putF K (q := 9) rfl (hw _ (List.mem_of_getElem? (i := 33) rfl)) Via.refl F0 E (Or.inr ⟨(hw _ (List.mem_of_getElem? (i := 34) rfl)), rfl, rfl⟩) (hw _ (List.mem_of_getElem? (i := 1) rfl)) (ty := (.object "java/lang/String")) (by decide) rfl rfl d5_6 ga hax ?_
  intro h1 W2 F0 E
  have K0 := K0.wr W2 (Or.inl List.mem_cons_self)
  have F1 := F1.other W2 (Or.inr (own_vs hw (by decide) (by decide) (by decide)))
  have F2 := F2.other W2 (Or.inr (own_vs hw (by decide) (by decide) (by decide)))
  refine Go.aloadN K (q := 10) rfl d5_9 rfl rfl ?_
  refine Go.aloadN K (q := 11) rfl d5_10 rfl rfl ?_
  refine Go.putF K (q := 14) rfl (hw _ (List.mem_of_getElem? (i := 35) rfl)) Via.refl F1 E (Or.inr ⟨(hw _ (List.mem_of_getElem? (i := 36) rfl)), rfl, rfl⟩) (hw _ (List.mem_of_getElem? (i := 1) rfl)) (ty := (.object "java/lang/String")) (by decide) rfl rfl d5_11 ga hax ?_
  intro h3 W4 F1 E
  have K0 := K0.wr W4 (Or.inl List.mem_cons_self)
  have F0 := F0.other W4 (Or.inr (own_vs hw (by decide) (by decide) (by decide)))
  have F2 := F2.other W4 (Or.inr (own_vs hw (by decide) (by decide) (by decide)))
  refine Go.aloadN K (q := 15) rfl d5_14 rfl rfl ?_
  refine Go.aloadN K (q := 16) rfl d5_15 rfl rfl ?_
  refine Go.putF K (q := 19) rfl (hw _ (List.mem_of_getElem? (i := 37) rfl)) Via.refl F2 E (Or.inr ⟨(hw _ (List.mem_of_getElem? (i := 38) rfl)), rfl, rfl⟩) (hw _ (List.mem_of_getElem? (i := 1) rfl)) (ty := (.object "java/lang/String")) (by decide) rfl rfl d5_16 ga hax ?_
  intro h5 W6 F2 E
  have K0 := K0.wr W6 (Or.inl List.mem_cons_self)
  have F0 := F0.other W6 (Or.inr (own_vs hw (by decide) (by decide) (by decide)))
  have F1 := F1.other W6 (Or.inr (own_vs hw (by decide) (by decide) (by decide)))
  exact Go.retV K d5_19 (by decide) (by decide) (fun _ q => q) (⟨rfl, K0, E, F0, F1, F2⟩)
set_option maxRecDepth 65536 in
set_option maxHeartbeats 40000000 in
theorem c_eqn (l : Launch) (Z : State) (a0 : Array Value) (hw : ∀ d ∈ tables_1, d.before a0 Z = true) (xs : List Addr) (n0 : Nat) (h : Heap) (Z0 : n0 ≤ h.size) (a : Addr) :
    Ctr l Z consts_1 xs n0 (⟨"com/example/vestline/vestline/schema/Violation", "equals", "(Ljava/lang/Object;)Z"⟩ : MethodName) prog_38_method_5_code 3 (some .boolean) [] ({ frames := 0, cells := 0, slots := 0, locals := 0 } : Room) #[(.ref a), .null] h (fun v h' => v = some (.int 0) ∧ h = h') := by
  refine Ctr.body pn10 ?_
  intro p e s m below meth c K
  refine Go.entry (f' := (mkF m 0 #[.val (.ref a), .val .null, .unset] [])) (by first | (simp [entryFrame, mkF, argsToLocals, Value.category]; done) | rfl) ?_
  refine Go.aloadN K (q := 1) rfl d6_0 rfl rfl ?_
  refine Go.instNull K (q := 4) rfl d6_1 ?_
  refine Go.ifN K (q := 7) rfl d6_4 (show (0 : Int32) = (0 : Int32) from rfl) ?_
  refine Go.iconst K (q := 8) rfl (v := (0 : Int32)) (by decide) d6_7 ?_
  exact Go.retN K (by simp) d6_8 (by decide) (by decide) (fun _ q => q) (⟨rfl, rfl⟩)
set_option maxRecDepth 65536 in
set_option maxHeartbeats 40000000 in
theorem c_eqs (l : Launch) (Z : State) (a0 : Array Value) (hw : ∀ d ∈ tables_1, d.before a0 Z = true) (xs : List Addr) (n0 : Nat) (h : Heap) (Z0 : n0 ≤ h.size) (a b : Addr) (E : Exa Z h b "java/lang/String") :
    Ctr l Z consts_1 xs n0 (⟨"com/example/vestline/vestline/schema/Violation", "equals", "(Ljava/lang/Object;)Z"⟩ : MethodName) prog_38_method_5_code 3 (some .boolean) [] ({ frames := 0, cells := 0, slots := 0, locals := 0 } : Room) #[(.ref a), (.ref b)] h (fun v h' => v = some (.int 0) ∧ h = h') := by
  refine Ctr.body pn10 ?_
  intro p e s m below meth c K
  have own_no := own_no0 hw
  refine Go.entry (f' := (mkF m 0 #[.val (.ref a), .val (.ref b), .unset] [])) (by first | (simp [entryFrame, mkF, argsToLocals, Value.category]; done) | rfl) ?_
  refine Go.aloadN K (q := 1) rfl d6_0 rfl rfl ?_
  refine Go.instNo K (q := 4) rfl (hw _ (List.mem_of_getElem? (i := 44) rfl)) E own_no d6_1 ?_
  refine Go.ifN K (q := 7) rfl d6_4 (show (0 : Int32) = (0 : Int32) from rfl) ?_
  refine Go.iconst K (q := 8) rfl (v := (0 : Int32)) (by decide) d6_7 ?_
  exact Go.retN K (by simp) d6_8 (by decide) (by decide) (fun _ q => q) (⟨rfl, rfl⟩)
set_option maxRecDepth 65536 in
set_option maxHeartbeats 40000000 in
theorem c_eq (l : Launch) (Z : State) (a0 : Array Value) (hw : ∀ d ∈ tables_1, d.before a0 Z = true) (xs : List Addr) (n0 : Nat) (h : Heap) (Z0 : n0 ≤ h.size) (a b s1 s2 s3 t1 t2 t3 : Addr) (c1 c2 c3 d1 d2 d3 : List Int32) (z : Int32) (Sa : Sta Z h "java/lang/String" "COMPACT_STRINGS" "Z" (.int z)) (hz : ¬ z = 0) (E : Exa Z h b "com/example/vestline/vestline/schema/Violation") (F0 : Fld Z h a "com/example/vestline/vestline/schema/Violation" "path" "Ljava/lang/String;" (.ref s1)) (G0 : Fld Z h b "com/example/vestline/vestline/schema/Violation" "path" "Ljava/lang/String;" (.ref t1)) (S1 : Str Z h s1 c1) (T1 : Str Z h t1 d1) (Lc1 : c1.length ≤ 1) (Ld1 : d1.length ≤ 1) (F1 : Fld Z h a "com/example/vestline/vestline/schema/Violation" "keyword" "Ljava/lang/String;" (.ref s2)) (G1 : Fld Z h b "com/example/vestline/vestline/schema/Violation" "keyword" "Ljava/lang/String;" (.ref t2)) (S2 : Str Z h s2 c2) (T2 : Str Z h t2 d2) (Lc2 : c2.length ≤ 1) (Ld2 : d2.length ≤ 1) (F2 : Fld Z h a "com/example/vestline/vestline/schema/Violation" "message" "Ljava/lang/String;" (.ref s3)) (G2 : Fld Z h b "com/example/vestline/vestline/schema/Violation" "message" "Ljava/lang/String;" (.ref t3)) (S3 : Str Z h s3 c3) (T3 : Str Z h t3 d3) (Lc3 : c3.length ≤ 1) (Ld3 : d3.length ≤ 1) :
    Ctr l Z consts_1 xs n0 (⟨"com/example/vestline/vestline/schema/Violation", "equals", "(Ljava/lang/Object;)Z"⟩ : MethodName) prog_38_method_5_code 3 (some .boolean) [] ({ frames := 2, cells := 0, slots := 0, locals := 28 } : Room) #[(.ref a), (.ref b)] h (fun v h' => v = some (.int (if c1 = d1 ∧ c2 = d2 ∧ c3 = d3 then 1 else 0)) ∧ h = h') := by
  refine Ctr.body pn10 ?_
  intro p e s m below meth c K
  refine Go.entry (f' := (mkF m 0 #[.val (.ref a), .val (.ref b), .unset] [])) (by first | (simp [entryFrame, mkF, argsToLocals, Value.category]; done) | rfl) ?_
  refine Go.aloadN K (q := 1) rfl d6_0 rfl rfl ?_
  refine Go.instY K (q := 4) rfl (hw _ (List.mem_of_getElem? (i := 44) rfl)) (Ins.self E) d6_1 ?_
  refine Go.ifY K (q := 9) (by decide) (by decide) d6_4 (show ¬ (1 : Int32) = (0 : Int32) from (by decide)) ?_
  refine Go.aloadN K (q := 10) rfl d6_9 rfl rfl ?_
  refine Go.castY K (q := 13) rfl (hw _ (List.mem_of_getElem? (i := 44) rfl)) (Ins.self E) d6_10 ?_
  refine Go.astoreN K (q := 14) rfl (L' := #[.val (.ref a), .val (.ref b), .val (.ref b)]) d6_13 rfl rfl ?_
  refine Go.aloadN K (q := 15) rfl d6_14 rfl rfl ?_
  refine Go.getF K (q := 18) rfl (hw _ (List.mem_of_getElem? (i := 33) rfl)) Via.refl (F0) d6_15 ?_
  refine Go.aloadN K (q := 19) rfl d6_18 rfl rfl ?_
  refine Go.getF K (q := 22) rfl (hw _ (List.mem_of_getElem? (i := 33) rfl)) Via.refl (G0) d6_19 ?_
  refine Go.cV K (q := 25) rfl (y := (⟨"java/lang/String", "equals", "(Ljava/lang/Object;)Z"⟩ : MethodName)) (z := (⟨"java/lang/String", "equals", "(Ljava/lang/Object;)Z"⟩ : MethodName)) (c_seq l Z a0 hw xs n0 h Z0 s1 t1 c1 d1 z Sa hz S1 T1 Lc1 Ld1) (hw _ (List.mem_of_getElem? (i := 66) rfl)) (hw _ (List.mem_of_getElem? (i := 67) rfl)) (nfS (hw _ (List.mem_of_getElem? (i := 69) rfl))) (hw _ (List.mem_of_getElem? (i := 69) rfl)) (hw _ (List.mem_of_getElem? (i := 68) rfl)) (hw _ (List.mem_of_getElem? (i := 9) rfl)) (hw _ (List.mem_of_getElem? (i := 70) rfl)) (by decide) S1.exa pd7 (argsL := [(.ref t1)]) (rest := []) rfl rfl rfl rfl (W := 0) (Nat.le_of_eq rfl) (by decide) (by decide) d6_22 (cells' := 0) (slots' := 0) rfl rfl (by decide) (by decide) ?_
  intro r2 h1 hQ sz_h1
  obtain ⟨rfl, rfl⟩ := hQ
  show Go p l e _ s m _ below meth c _ _ _ _ _ _ _ _ _ h 0 0 (mkF m 25 #[.val (.ref a), .val (.ref b), .val (.ref b)] [(.int (if c1 = d1 then 1 else 0))])
  by_cases hs : c1 = d1
  · skip
    rw [if_pos hs]
    have hs1 := hs
    refine Go.ifN K (q := 28) rfl d6_25 (show ¬ (1 : Int32) = (0 : Int32) from (by decide)) ?_
    refine Go.aloadN K (q := 29) rfl d6_28 rfl rfl ?_
    refine Go.getF K (q := 32) rfl (hw _ (List.mem_of_getElem? (i := 35) rfl)) Via.refl (F1) d6_29 ?_
    refine Go.aloadN K (q := 33) rfl d6_32 rfl rfl ?_
    refine Go.getF K (q := 36) rfl (hw _ (List.mem_of_getElem? (i := 35) rfl)) Via.refl (G1) d6_33 ?_
    refine Go.cV K (q := 39) rfl (y := (⟨"java/lang/String", "equals", "(Ljava/lang/Object;)Z"⟩ : MethodName)) (z := (⟨"java/lang/String", "equals", "(Ljava/lang/Object;)Z"⟩ : MethodName)) (c_seq l Z a0 hw xs n0 h Z0 s2 t2 c2 d2 z Sa hz S2 T2 Lc2 Ld2) (hw _ (List.mem_of_getElem? (i := 66) rfl)) (hw _ (List.mem_of_getElem? (i := 67) rfl)) (nfS (hw _ (List.mem_of_getElem? (i := 69) rfl))) (hw _ (List.mem_of_getElem? (i := 69) rfl)) (hw _ (List.mem_of_getElem? (i := 68) rfl)) (hw _ (List.mem_of_getElem? (i := 9) rfl)) (hw _ (List.mem_of_getElem? (i := 70) rfl)) (by decide) S2.exa pd7 (argsL := [(.ref t2)]) (rest := []) rfl rfl rfl rfl (W := 0) (Nat.le_of_eq rfl) (by decide) (by decide) d6_36 (cells' := 0) (slots' := 0) rfl rfl (by decide) (by decide) ?_
    intro r4 h3 hQ sz_h3
    obtain ⟨rfl, rfl⟩ := hQ
    show Go p l e _ s m _ below meth c _ _ _ _ _ _ _ _ _ h 0 0 (mkF m 39 #[.val (.ref a), .val (.ref b), .val (.ref b)] [(.int (if c2 = d2 then 1 else 0))])
    by_cases hs : c2 = d2
    · skip
      rw [if_pos hs]
      have hs2 := hs
      refine Go.ifN K (q := 42) rfl d6_39 (show ¬ (1 : Int32) = (0 : Int32) from (by decide)) ?_
      refine Go.aloadN K (q := 43) rfl d6_42 rfl rfl ?_
      refine Go.getF K (q := 46) rfl (hw _ (List.mem_of_getElem? (i := 37) rfl)) Via.refl (F2) d6_43 ?_
      refine Go.aloadN K (q := 47) rfl d6_46 rfl rfl ?_
      refine Go.getF K (q := 50) rfl (hw _ (List.mem_of_getElem? (i := 37) rfl)) Via.refl (G2) d6_47 ?_
      refine Go.cV K (q := 53) rfl (y := (⟨"java/lang/String", "equals", "(Ljava/lang/Object;)Z"⟩ : MethodName)) (z := (⟨"java/lang/String", "equals", "(Ljava/lang/Object;)Z"⟩ : MethodName)) (c_seq l Z a0 hw xs n0 h Z0 s3 t3 c3 d3 z Sa hz S3 T3 Lc3 Ld3) (hw _ (List.mem_of_getElem? (i := 66) rfl)) (hw _ (List.mem_of_getElem? (i := 67) rfl)) (nfS (hw _ (List.mem_of_getElem? (i := 69) rfl))) (hw _ (List.mem_of_getElem? (i := 69) rfl)) (hw _ (List.mem_of_getElem? (i := 68) rfl)) (hw _ (List.mem_of_getElem? (i := 9) rfl)) (hw _ (List.mem_of_getElem? (i := 70) rfl)) (by decide) S3.exa pd7 (argsL := [(.ref t3)]) (rest := []) rfl rfl rfl rfl (W := 0) (Nat.le_of_eq rfl) (by decide) (by decide) d6_50 (cells' := 0) (slots' := 0) rfl rfl (by decide) (by decide) ?_
      intro r6 h5 hQ sz_h5
      obtain ⟨rfl, rfl⟩ := hQ
      show Go p l e _ s m _ below meth c _ _ _ _ _ _ _ _ _ h 0 0 (mkF m 53 #[.val (.ref a), .val (.ref b), .val (.ref b)] [(.int (if c3 = d3 then 1 else 0))])
      by_cases hs : c3 = d3
      · skip
        rw [if_pos hs]
        have hs3 := hs
        refine Go.ifN K (q := 56) rfl d6_53 (show ¬ (1 : Int32) = (0 : Int32) from (by decide)) ?_
        refine Go.iconst K (q := 57) rfl (v := (1 : Int32)) (by decide) d6_56 ?_
        refine Go.goto K (q := 61) (by decide) (by decide) d6_57 ?_
        exact Go.retN K (by simp) d6_61 (by decide) (by decide) (fun _ q => q) (⟨by rw [if_pos ⟨hs1, hs2, hs3⟩]; rfl, rfl⟩)
      · skip
        rw [if_neg hs]
        refine Go.ifY K (q := 60) (by decide) (by decide) d6_53 (show (0 : Int32) = (0 : Int32) from rfl) ?_
        refine Go.iconst K (q := 61) rfl (v := (0 : Int32)) (by decide) d6_60 ?_
        exact Go.retN K (by simp) d6_61 (by decide) (by decide) (fun _ q => q) (⟨by rw [if_neg (fun q => hs q.2.2)]; rfl, rfl⟩)
    · skip
      rw [if_neg hs]
      refine Go.ifY K (q := 60) (by decide) (by decide) d6_39 (show (0 : Int32) = (0 : Int32) from rfl) ?_
      refine Go.iconst K (q := 61) rfl (v := (0 : Int32)) (by decide) d6_60 ?_
      exact Go.retN K (by simp) d6_61 (by decide) (by decide) (fun _ q => q) (⟨by rw [if_neg (fun q => hs q.2.1)]; rfl, rfl⟩)
  · skip
    rw [if_neg hs]
    refine Go.ifY K (q := 60) (by decide) (by decide) d6_25 (show (0 : Int32) = (0 : Int32) from rfl) ?_
    refine Go.iconst K (q := 61) rfl (v := (0 : Int32)) (by decide) d6_60 ?_
    exact Go.retN K (by simp) d6_61 (by decide) (by decide) (fun _ q => q) (⟨by rw [if_neg (fun q => hs q.1)]; rfl, rfl⟩)
set_option maxRecDepth 65536 in
set_option maxHeartbeats 40000000 in
theorem c_same (l : Launch) (Z : State) (a0 : Array Value) (hw : ∀ d ∈ tables_1, d.before a0 Z = true) (xs : List Addr) (n0 : Nat) (h : Heap) (Z0 : n0 ≤ h.size) (x y : Int32) :
    Ctr l Z consts_1 xs n0 (⟨"com/example/vestline/vestline/schema/ViolationEqualsPinLaw", "same", "(II)Z"⟩ : MethodName) method_3_code 4 (some .boolean) [] ({ frames := 0, cells := 0, slots := 0, locals := 0 } : Room) #[(.int x), (.int y)] h (fun v h' => v = some (.int (own_same x y)) ∧ h = h') := by
  refine Ctr.body pn11 ?_
  intro p e s m below meth c K
  refine Go.entry (f' := (mkF m 0 #[.val (.int x), .val (.int y), .unset, .unset] [])) (by first | (simp [entryFrame, mkF, argsToLocals, Value.category]; done) | rfl) ?_
  refine Go.iloadN K (q := 1) rfl d11_0 rfl ?_
  refine Go.bipush K (q := 3) rfl (v := (8 : Int32)) (by decide) d11_1 ?_
  refine Go.iushr K (q := 4) rfl d11_3 ?_
  refine Go.iconst K (q := 5) rfl (v := (1 : Int32)) (by decide) d11_4 ?_
  refine Go.iand K (q := 6) rfl d11_5 ?_
  refine Go.istoreN K (q := 7) rfl (L' := #[.val (.int x), .val (.int y), .val (.int (((x.toUInt32 >>> ((8 : Int32) &&& 31).toUInt32).toInt32) &&& (1 : Int32))), .unset]) d11_6 rfl ?_
  refine Go.iloadN K (q := 8) rfl d11_7 rfl ?_
  refine Go.bipush K (q := 10) rfl (v := (8 : Int32)) (by decide) d11_8 ?_
  refine Go.iushr K (q := 11) rfl d11_10 ?_
  refine Go.iconst K (q := 12) rfl (v := (1 : Int32)) (by decide) d11_11 ?_
  refine Go.iand K (q := 13) rfl d11_12 ?_
  refine Go.istoreN K (q := 14) rfl (L' := #[.val (.int x), .val (.int y), .val (.int (((x.toUInt32 >>> ((8 : Int32) &&& 31).toUInt32).toInt32) &&& (1 : Int32))), .val (.int (((y.toUInt32 >>> ((8 : Int32) &&& 31).toUInt32).toInt32) &&& (1 : Int32)))]) d11_13 rfl ?_
  refine Go.iloadN K (q := 15) rfl d11_14 rfl ?_
  refine Go.iloadN K (q := 16) rfl d11_15 rfl ?_
  refine Go.icmp K (q := 21) (q' := 19) (by decide) (by decide) rfl d11_16 (fun (h1 : (((x.toUInt32 >>> ((8 : Int32) &&& 31).toUInt32).toInt32) &&& (1 : Int32)) = (((y.toUInt32 >>> ((8 : Int32) &&& 31).toUInt32).toInt32) &&& (1 : Int32))) => ?_) (fun (h1 : ¬ (((x.toUInt32 >>> ((8 : Int32) &&& 31).toUInt32).toInt32) &&& (1 : Int32)) = (((y.toUInt32 >>> ((8 : Int32) &&& 31).toUInt32).toInt32) &&& (1 : Int32))) => ?_)
  · skip
    refine Go.iloadN K (q := 22) rfl d11_21 rfl ?_
    refine Go.ifc K (q := 27) (q' := 25) (by decide) (by decide) rfl d11_22 (fun (h2 : ¬ (((x.toUInt32 >>> ((8 : Int32) &&& 31).toUInt32).toInt32) &&& (1 : Int32)) = (0 : Int32)) => ?_) (fun (h2 : (((x.toUInt32 >>> ((8 : Int32) &&& 31).toUInt32).toInt32) &&& (1 : Int32)) = (0 : Int32)) => ?_)
    · skip
      refine Go.iloadN K (q := 28) rfl d11_27 rfl ?_
      refine Go.sipush K (q := 31) rfl (v := (255 : Int32)) (by decide) d11_28 ?_
      refine Go.iand K (q := 32) rfl d11_31 ?_
      refine Go.iloadN K (q := 33) rfl d11_32 rfl ?_
      refine Go.sipush K (q := 36) rfl (v := (255 : Int32)) (by decide) d11_33 ?_
      refine Go.iand K (q := 37) rfl d11_36 ?_
      refine Go.icmp K (q := 44) (q' := 40) (by decide) (by decide) rfl d11_37 (fun (h3 : ¬ (x &&& (255 : Int32)) = (y &&& (255 : Int32))) => ?_) (fun (h3 : (x &&& (255 : Int32)) = (y &&& (255 : Int32))) => ?_)
      · skip
        refine Go.iconst K (q := 45) rfl (v := (0 : Int32)) (by decide) d11_44 ?_
        exact Go.retN K (by simp) d11_45 (by decide) (by decide) (fun _ q => q) (⟨by rw [own_same, if_pos h1, if_neg h2, if_neg h3]; rfl, rfl⟩)
      · skip
        refine Go.iconst K (q := 41) rfl (v := (1 : Int32)) (by decide) d11_40 ?_
        refine Go.goto K (q := 45) (by decide) (by decide) d11_41 ?_
        exact Go.retN K (by simp) d11_45 (by decide) (by decide) (fun _ q => q) (⟨by rw [own_same, if_pos h1, if_neg h2, if_pos h3]; rfl, rfl⟩)
    · skip
      refine Go.iconst K (q := 26) rfl (v := (1 : Int32)) (by decide) d11_25 ?_
      exact Go.retN K (by simp) d11_26 (by decide) (by decide) (fun _ q => q) (⟨by rw [own_same, if_pos h1, if_pos h2]; rfl, rfl⟩)
  · skip
    refine Go.iconst K (q := 20) rfl (v := (0 : Int32)) (by decide) d11_19 ?_
    exact Go.retN K (by simp) d11_20 (by decide) (by decide) (fun _ q => q) (⟨by rw [own_same, if_neg h1]; rfl, rfl⟩)
set_option maxRecDepth 65536 in
set_option maxHeartbeats 40000000 in
theorem rm0 (l : Launch) (Z : State) (a0 : Array Value) (hw : ∀ d ∈ tables_1, d.before a0 Z = true) (ws : List Jvm.Cond) (xs : List Addr) (n0 : Nat) (h : Heap) (Z0 : n0 ≤ h.size) (p1 k1 m1 sel : Int32) (z : Int32) (Sa : Sta Z h "java/lang/String" "COMPACT_STRINGS" "Z" (.int z)) (hz : ¬ z = 0) :
    Ctr l Z consts_1 xs n0 x code maxLocals ret ws room_1 #[(.int p1), (.int k1), (.int m1), (.int sel)] h (fun v h' => v = some (.int 1)) := by
  refine Ctr.body pn12 ?_
  intro p e s m below meth c K
  refine Go.entry (f' := (mkF m 0 #[.val (.int p1), .val (.int k1), .val (.int m1), .val (.int sel), .unset, .unset, .unset, .unset, .unset, .unset, .unset, .unset, .unset, .unset] [])) (by first | (simp [entryFrame, mkF, argsToLocals, Value.category, maxLocals]; done) | rfl) ?_
  have E0 := Ext.refl h
  refine Go.iloadN K (q := 1) rfl at_0 rfl ?_
  refine Go.sipush K (q := 4) rfl (v := (511 : Int32)) (by decide) at_1 ?_
  refine Go.iand K (q := 5) rfl at_4 ?_
  generalize exp1 : (p1 &&& (511 : Int32)) = xp1
  refine Go.istore K (q := 7) rfl (L' := #[.val (.int p1), .val (.int k1), .val (.int m1), .val (.int sel), .val (.int xp1), .unset, .unset, .unset, .unset, .unset, .unset, .unset, .unset, .unset]) at_5 rfl ?_
  refine Go.iloadN K (q := 8) rfl at_7 rfl ?_
  refine Go.iloadN K (q := 9) rfl at_8 rfl ?_
  refine Go.bipush K (q := 11) rfl (v := (16 : Int32)) (by decide) at_9 ?_
  refine Go.iushr K (q := 12) rfl at_11 ?_
  refine Go.ixor K (q := 13) rfl at_12 ?_
  refine Go.sipush K (q := 16) rfl (v := (511 : Int32)) (by decide) at_13 ?_
  refine Go.iand K (q := 17) rfl at_16 ?_
  generalize eyp2 : ((p1 ^^^ ((p1.toUInt32 >>> ((16 : Int32) &&& 31).toUInt32).toInt32)) &&& (511 : Int32)) = yp2
  refine Go.istore K (q := 19) rfl (L' := #[.val (.int p1), .val (.int k1), .val (.int m1), .val (.int sel), .val (.int xp1), .val (.int yp2), .unset, .unset, .unset, .unset, .unset, .unset, .unset, .unset]) at_17 rfl ?_
  refine Go.iloadN K (q := 20) rfl at_19 rfl ?_
  refine Go.sipush K (q := 23) rfl (v := (511 : Int32)) (by decide) at_20 ?_
  refine Go.iand K (q := 24) rfl at_23 ?_
  generalize exk3 : (k1 &&& (511 : Int32)) = xk3
  refine Go.istore K (q := 26) rfl (L' := #[.val (.int p1), .val (.int k1), .val (.int m1), .val (.int sel), .val (.int xp1), .val (.int yp2), .val (.int xk3), .unset, .unset, .unset, .unset, .unset, .unset, .unset]) at_24 rfl ?_
  refine Go.iloadN K (q := 27) rfl at_26 rfl ?_
  refine Go.iloadN K (q := 28) rfl at_27 rfl ?_
  refine Go.bipush K (q := 30) rfl (v := (16 : Int32)) (by decide) at_28 ?_
  refine Go.iushr K (q := 31) rfl at_30 ?_
  refine Go.ixor K (q := 32) rfl at_31 ?_
  refine Go.sipush K (q := 35) rfl (v := (511 : Int32)) (by decide) at_32 ?_
  refine Go.iand K (q := 36) rfl at_35 ?_
  generalize eyk4 : ((k1 ^^^ ((k1.toUInt32 >>> ((16 : Int32) &&& 31).toUInt32).toInt32)) &&& (511 : Int32)) = yk4
  refine Go.istore K (q := 38) rfl (L' := #[.val (.int p1), .val (.int k1), .val (.int m1), .val (.int sel), .val (.int xp1), .val (.int yp2), .val (.int xk3), .val (.int yk4), .unset, .unset, .unset, .unset, .unset, .unset]) at_36 rfl ?_
  refine Go.iloadN K (q := 39) rfl at_38 rfl ?_
  refine Go.sipush K (q := 42) rfl (v := (511 : Int32)) (by decide) at_39 ?_
  refine Go.iand K (q := 43) rfl at_42 ?_
  generalize exm5 : (m1 &&& (511 : Int32)) = xm5
  refine Go.istore K (q := 45) rfl (L' := #[.val (.int p1), .val (.int k1), .val (.int m1), .val (.int sel), .val (.int xp1), .val (.int yp2), .val (.int xk3), .val (.int yk4), .val (.int xm5), .unset, .unset, .unset, .unset, .unset]) at_43 rfl ?_
  refine Go.iloadN K (q := 46) rfl at_45 rfl ?_
  refine Go.iloadN K (q := 47) rfl at_46 rfl ?_
  refine Go.bipush K (q := 49) rfl (v := (16 : Int32)) (by decide) at_47 ?_
  refine Go.iushr K (q := 50) rfl at_49 ?_
  refine Go.ixor K (q := 51) rfl at_50 ?_
  refine Go.sipush K (q := 54) rfl (v := (511 : Int32)) (by decide) at_51 ?_
  refine Go.iand K (q := 55) rfl at_54 ?_
  generalize eym6 : ((m1 ^^^ ((m1.toUInt32 >>> ((16 : Int32) &&& 31).toUInt32).toInt32)) &&& (511 : Int32)) = ym6
  refine Go.istore K (q := 57) rfl (L' := #[.val (.int p1), .val (.int k1), .val (.int m1), .val (.int sel), .val (.int xp1), .val (.int yp2), .val (.int xk3), .val (.int yk4), .val (.int xm5), .val (.int ym6), .unset, .unset, .unset, .unset]) at_55 rfl ?_
  show Go p l e _ s m _ below meth c _ _ _ _ _ _ _ _ _ h 0 0 (mkF m 57 #[.val (.int p1), .val (.int k1), .val (.int m1), .val (.int sel), .val (.int xp1), .val (.int yp2), .val (.int xk3), .val (.int yk4), .val (.int xm5), .val (.int ym6), .unset, .unset, .unset, .unset] [])
  refine Go.new K (q := 60) rfl (hw _ (List.mem_of_getElem? (i := 0) rfl)) (hw _ (List.mem_of_getElem? (i := 1) rfl)) (hw _ (List.mem_of_getElem? (i := 2) rfl)) at_57 (cells' := 1) (slots' := 3) rfl rfl (by decide) (by decide) ?_
  intro h7 ax g_ax N_ax X_ax D_ax
  have ge_E0_ax : h.size ≤ ax := Nat.le_trans E0.1 (Nat.le_of_eq g_ax.symm)
  have E0 := Ext.trans E0 N_ax
  have F0_ax : Fld Z h7 ax "com/example/vestline/vestline/schema/Violation" "path" "Ljava/lang/String;" .null := D_ax (Or.inr (hw _ (List.mem_of_getElem? (i := 34) rfl))) (ty := .object "java/lang/String") (by decide)
  have F1_ax : Fld Z h7 ax "com/example/vestline/vestline/schema/Violation" "keyword" "Ljava/lang/String;" .null := D_ax (Or.inr (hw _ (List.mem_of_getElem? (i := 36) rfl))) (ty := .object "java/lang/String") (by decide)
  have F2_ax : Fld Z h7 ax "com/example/vestline/vestline/schema/Violation" "message" "Ljava/lang/String;" .null := D_ax (Or.inr (hw _ (List.mem_of_getElem? (i := 38) rfl))) (ty := .object "java/lang/String") (by decide)
  have n_ax : n0 ≤ ax := Nat.le_trans Z0 ge_E0_ax
  refine Go.dup K (q := 61) rfl at_60 rfl ?_
  refine Go.iload K (q := 63) rfl at_61 rfl ?_
  refine Go.cS K (q := 66) rfl (y := (⟨"com/example/vestline/vestline/schema/ViolationEqualsPinLaw", "str", "(I)Ljava/lang/String;"⟩ : MethodName)) (c_str l Z a0 hw (ax :: xs) n0 h7 (Nat.le_trans Z0 E0.1) xp1 z (Sa.ext E0) hz) (hw _ (List.mem_of_getElem? (i := 3) rfl)) (hw _ (List.mem_of_getElem? (i := 4) rfl)) (hw _ (List.mem_of_getElem? (i := 5) rfl)) (hw _ (List.mem_of_getElem? (i := 6) rfl)) (by decide) pd8 (argsL := [(.int xp1)]) (rest := [(.ref ax), (.ref ax)]) rfl rfl rfl rfl (W := 2) (Nat.le_of_eq rfl) (by decide) (by decide) at_63 (cells' := 7) (slots' := 15) rfl rfl (by decide) (by decide) ?_
  intro r9 h8 hQ sz_h8
  obtain ⟨s1x, rfl, N_s1x, S_s1x⟩ := hQ
  have E0 := Ext.trans E0 N_s1x
  show Go p l e _ s m _ below meth c _ _ _ _ _ _ _ _ _ h8 7 15 (mkF m 66 #[.val (.int p1), .val (.int k1), .val (.int m1), .val (.int sel), .val (.int xp1), .val (.int yp2), .val (.int xk3), .val (.int yk4), .val (.int xm5), .val (.int ym6), .unset, .unset, .unset, .unset] [(.ref s1x), (.ref ax), (.ref ax)])
  have X_ax := X_ax.ext N_s1x
  have F0_ax := F0_ax.ext N_s1x
  have F1_ax := F1_ax.ext N_s1x
  have F2_ax := F2_ax.ext N_s1x
  refine Go.iload K (q := 68) rfl at_66 rfl ?_
  refine Go.cS K (q := 71) rfl (y := (⟨"com/example/vestline/vestline/schema/ViolationEqualsPinLaw", "str", "(I)Ljava/lang/String;"⟩ : MethodName)) (c_str l Z a0 hw (ax :: xs) n0 h8 (Nat.le_trans Z0 E0.1) xk3 z (Sa.ext E0) hz) (hw _ (List.mem_of_getElem? (i := 3) rfl)) (hw _ (List.mem_of_getElem? (i := 4) rfl)) (hw _ (List.mem_of_getElem? (i := 5) rfl)) (hw _ (List.mem_of_getElem? (i := 6) rfl)) (by decide) pd8 (argsL := [(.int xk3)]) (rest := [(.ref s1x), (.ref ax), (.ref ax)]) rfl rfl rfl rfl (W := 3) (Nat.le_of_eq rfl) (by decide) (by decide) at_68 (cells' := 13) (slots' := 27) rfl rfl (by decide) (by decide) ?_
  intro r11 h10 hQ sz_h10
  obtain ⟨s2x, rfl, N_s2x, S_s2x⟩ := hQ
  have E0 := Ext.trans E0 N_s2x
  show Go p l e _ s m _ below meth c _ _ _ _ _ _ _ _ _ h10 13 27 (mkF m 71 #[.val (.int p1), .val (.int k1), .val (.int m1), .val (.int sel), .val (.int xp1), .val (.int yp2), .val (.int xk3), .val (.int yk4), .val (.int xm5), .val (.int ym6), .unset, .unset, .unset, .unset] [(.ref s2x), (.ref s1x), (.ref ax), (.ref ax)])
  have X_ax := X_ax.ext N_s2x
  have F0_ax := F0_ax.ext N_s2x
  have F1_ax := F1_ax.ext N_s2x
  have F2_ax := F2_ax.ext N_s2x
  have S_s1x := S_s1x.ext N_s2x
  refine Go.iload K (q := 73) rfl at_71 rfl ?_
  refine Go.cS K (q := 76) rfl (y := (⟨"com/example/vestline/vestline/schema/ViolationEqualsPinLaw", "str", "(I)Ljava/lang/String;"⟩ : MethodName)) (c_str l Z a0 hw (ax :: xs) n0 h10 (Nat.le_trans Z0 E0.1) xm5 z (Sa.ext E0) hz) (hw _ (List.mem_of_getElem? (i := 3) rfl)) (hw _ (List.mem_of_getElem? (i := 4) rfl)) (hw _ (List.mem_of_getElem? (i := 5) rfl)) (hw _ (List.mem_of_getElem? (i := 6) rfl)) (by decide) pd8 (argsL := [(.int xm5)]) (rest := [(.ref s2x), (.ref s1x), (.ref ax), (.ref ax)]) rfl rfl rfl rfl (W := 4) (Nat.le_of_eq rfl) (by decide) (by decide) at_73 (cells' := 19) (slots' := 39) rfl rfl (by decide) (by decide) ?_
  intro r13 h12 hQ sz_h12
  obtain ⟨s3x, rfl, N_s3x, S_s3x⟩ := hQ
  have E0 := Ext.trans E0 N_s3x
  show Go p l e _ s m _ below meth c _ _ _ _ _ _ _ _ _ h12 19 39 (mkF m 76 #[.val (.int p1), .val (.int k1), .val (.int m1), .val (.int sel), .val (.int xp1), .val (.int yp2), .val (.int xk3), .val (.int yk4), .val (.int xm5), .val (.int ym6), .unset, .unset, .unset, .unset] [(.ref s3x), (.ref s2x), (.ref s1x), (.ref ax), (.ref ax)])
  have X_ax := X_ax.ext N_s3x
  have F0_ax := F0_ax.ext N_s3x
  have F1_ax := F1_ax.ext N_s3x
  have F2_ax := F2_ax.ext N_s3x
  have S_s1x := S_s1x.ext N_s3x
  have S_s2x := S_s2x.ext N_s3x
  refine Go.cI K (q := 79) rfl (y := (⟨"com/example/vestline/vestline/schema/Violation", "<init>", "(Ljava/lang/String;Ljava/lang/String;Ljava/lang/String;)V"⟩ : MethodName)) (c_vi l Z a0 hw (ax :: xs) n0 h12 (Nat.le_trans Z0 E0.1) ax s1x s2x s3x List.mem_cons_self n_ax X_ax F0_ax F1_ax F2_ax) rfl (hw _ (List.mem_of_getElem? (i := 29) rfl)) (hw _ (List.mem_of_getElem? (i := 30) rfl)) (hw _ (List.mem_of_getElem? (i := 2) rfl)) (hw _ (List.mem_of_getElem? (i := 31) rfl)) (by decide) (a := ax) pd9 (argsL := [(.ref s1x), (.ref s2x), (.ref s3x)]) (rest := [(.ref ax)]) rfl rfl rfl rfl (W := 1) (Nat.le_of_eq rfl) (by decide) (by decide) at_76 (cells' := 19) (slots' := 39) rfl rfl (by decide) (by decide) ?_
  intro r15 h14 hQ sz_h14
  obtain ⟨rfl, Kx, X2_ax, G0_ax, G1_ax, G2_ax⟩ := hQ
  have E0 := Ext.keep E0 Kx (allS ge_E0_ax all0)
  show Go p l e _ s m _ below meth c _ _ _ _ _ _ _ _ _ h14 19 39 (mkF m 79 #[.val (.int p1), .val (.int k1), .val (.int m1), .val (.int sel), .val (.int xp1), .val (.int yp2), .val (.int xk3), .val (.int yk4), .val (.int xm5), .val (.int ym6), .unset, .unset, .unset, .unset] [(.ref ax)])
  have S_s1x := S_s1x.keepO X_ax (by decide) (hw _ (List.mem_of_getElem? (i := 1) rfl)) Kx
  have S_s2x := S_s2x.keepO X_ax (by decide) (hw _ (List.mem_of_getElem? (i := 1) rfl)) Kx
  have S_s3x := S_s3x.keepO X_ax (by decide) (hw _ (List.mem_of_getElem? (i := 1) rfl)) Kx
  have EX := Ext.refl h14
  refine Go.astore K (q := 81) rfl (L' := #[.val (.int p1), .val (.int k1), .val (.int m1), .val (.int sel), .val (.int xp1), .val (.int yp2), .val (.int xk3), .val (.int yk4), .val (.int xm5), .val (.int ym6), .val (.ref ax), .unset, .unset, .unset]) at_79 rfl rfl ?_
  refine Go.iloadN K (q := 82) rfl at_81 rfl ?_
  refine Go.iconst K (q := 83) rfl (v := (3 : Int32)) (by decide) at_82 ?_
  refine Go.iand K (q := 84) rfl at_83 ?_
  refine Go.istore K (q := 86) rfl (L' := #[.val (.int p1), .val (.int k1), .val (.int m1), .val (.int sel), .val (.int xp1), .val (.int yp2), .val (.int xk3), .val (.int yk4), .val (.int xm5), .val (.int ym6), .val (.ref ax), .val (.int (sel &&& (3 : Int32))), .unset, .unset]) at_84 rfl ?_
  refine Go.iload K (q := 88) rfl at_86 rfl ?_
  refine Go.iconst K (q := 89) rfl (v := (1 : Int32)) (by decide) at_88 ?_
  refine Go.icmp K (q := 107) (q' := 92) (by decide) (by decide) rfl at_89 (fun (hm1 : ¬ (sel &&& (3 : Int32)) = (1 : Int32)) => ?_) (fun (hm1 : (sel &&& (3 : Int32)) = (1 : Int32)) => ?_)
  · skip
    refine Go.iload K (q := 109) rfl at_107 rfl ?_
    refine Go.iconst K (q := 110) rfl (v := (2 : Int32)) (by decide) at_109 ?_
    refine Go.icmp K (q := 136) (q' := 113) (by decide) (by decide) rfl at_110 (fun (hm2 : ¬ (sel &&& (3 : Int32)) = (2 : Int32)) => ?_) (fun (hm2 : (sel &&& (3 : Int32)) = (2 : Int32)) => ?_)
    · skip
      refine Go.iload K (q := 138) rfl at_136 rfl ?_
      refine Go.iconst K (q := 139) rfl (v := (3 : Int32)) (by decide) at_138 ?_
      refine Go.icmp K (q := 150) (q' := 142) (by decide) (by decide) rfl at_139 (fun (hm3 : ¬ (sel &&& (3 : Int32)) = (3 : Int32)) => ?_) (fun (hm3 : (sel &&& (3 : Int32)) = (3 : Int32)) => ?_)
      · skip
        refine Go.new K (q := 153) rfl (hw _ (List.mem_of_getElem? (i := 0) rfl)) (hw _ (List.mem_of_getElem? (i := 1) rfl)) (hw _ (List.mem_of_getElem? (i := 2) rfl)) at_150 (cells' := 20) (slots' := 42) rfl rfl (by decide) (by decide) ?_
        intro h16 ay g_ay N_ay X_ay D_ay
        have ge_E0_ay : h.size ≤ ay := Nat.le_trans E0.1 (Nat.le_of_eq g_ay.symm)
        have ge_EX_ay : h14.size ≤ ay := Nat.le_trans EX.1 (Nat.le_of_eq g_ay.symm)
        have E0 := Ext.trans E0 N_ay
        have EX := Ext.trans EX N_ay
        have F0_ay : Fld Z h16 ay "com/example/vestline/vestline/schema/Violation" "path" "Ljava/lang/String;" .null := D_ay (Or.inr (hw _ (List.mem_of_getElem? (i := 34) rfl))) (ty := .object "java/lang/String") (by decide)
        have F1_ay : Fld Z h16 ay "com/example/vestline/vestline/schema/Violation" "keyword" "Ljava/lang/String;" .null := D_ay (Or.inr (hw _ (List.mem_of_getElem? (i := 36) rfl))) (ty := .object "java/lang/String") (by decide)
        have F2_ay : Fld Z h16 ay "com/example/vestline/vestline/schema/Violation" "message" "Ljava/lang/String;" .null := D_ay (Or.inr (hw _ (List.mem_of_getElem? (i := 38) rfl))) (ty := .object "java/lang/String") (by decide)
        have n_ay : n0 ≤ ay := Nat.le_trans Z0 ge_E0_ay
        refine Go.dup K (q := 154) rfl at_153 rfl ?_
        refine Go.iload K (q := 156) rfl at_154 rfl ?_
        refine Go.cS K (q := 159) rfl (y := (⟨"com/example/vestline/vestline/schema/ViolationEqualsPinLaw", "str", "(I)Ljava/lang/String;"⟩ : MethodName)) (c_str l Z a0 hw (ay :: ax :: xs) n0 h16 (Nat.le_trans Z0 E0.1) yp2 z (Sa.ext E0) hz) (hw _ (List.mem_of_getElem? (i := 3) rfl)) (hw _ (List.mem_of_getElem? (i := 4) rfl)) (hw _ (List.mem_of_getElem? (i := 5) rfl)) (hw _ (List.mem_of_getElem? (i := 6) rfl)) (by decide) pd8 (argsL := [(.int yp2)]) (rest := [(.ref ay), (.ref ay)]) rfl rfl rfl rfl (W := 2) (Nat.le_of_eq rfl) (by decide) (by decide) at_156 (cells' := 26) (slots' := 54) rfl rfl (by decide) (by decide) ?_
        intro r18 h17 hQ sz_h17
        obtain ⟨s1y, rfl, N_s1y, S_s1y⟩ := hQ
        have E0 := Ext.trans E0 N_s1y
        have EX := Ext.trans EX N_s1y
        show Go p l e _ s m _ below meth c _ _ _ _ _ _ _ _ _ h17 26 54 (mkF m 159 #[.val (.int p1), .val (.int k1), .val (.int m1), .val (.int sel), .val (.int xp1), .val (.int yp2), .val (.int xk3), .val (.int yk4), .val (.int xm5), .val (.int ym6), .val (.ref ax), .val (.int (sel &&& (3 : Int32))), .unset, .unset] [(.ref s1y), (.ref ay), (.ref ay)])
        have X_ay := X_ay.ext N_s1y
        have F0_ay := F0_ay.ext N_s1y
        have F1_ay := F1_ay.ext N_s1y
        have F2_ay := F2_ay.ext N_s1y
        refine Go.iload K (q := 161) rfl at_159 rfl ?_
        refine Go.cS K (q := 164) rfl (y := (⟨"com/example/vestline/vestline/schema/ViolationEqualsPinLaw", "str", "(I)Ljava/lang/String;"⟩ : MethodName)) (c_str l Z a0 hw (ay :: ax :: xs) n0 h17 (Nat.le_trans Z0 E0.1) yk4 z (Sa.ext E0) hz) (hw _ (List.mem_of_getElem? (i := 3) rfl)) (hw _ (List.mem_of_getElem? (i := 4) rfl)) (hw _ (List.mem_of_getElem? (i := 5) rfl)) (hw _ (List.mem_of_getElem? (i := 6) rfl)) (by decide) pd8 (argsL := [(.int yk4)]) (rest := [(.ref s1y), (.ref ay), (.ref ay)]) rfl rfl rfl rfl (W := 3) (Nat.le_of_eq rfl) (by decide) (by decide) at_161 (cells' := 32) (slots' := 66) rfl rfl (by decide) (by decide) ?_
        intro r20 h19 hQ sz_h19
        obtain ⟨s2y, rfl, N_s2y, S_s2y⟩ := hQ
        have E0 := Ext.trans E0 N_s2y
        have EX := Ext.trans EX N_s2y
        show Go p l e _ s m _ below meth c _ _ _ _ _ _ _ _ _ h19 32 66 (mkF m 164 #[.val (.int p1), .val (.int k1), .val (.int m1), .val (.int sel), .val (.int xp1), .val (.int yp2), .val (.int xk3), .val (.int yk4), .val (.int xm5), .val (.int ym6), .val (.ref ax), .val (.int (sel &&& (3 : Int32))), .unset, .unset] [(.ref s2y), (.ref s1y), (.ref ay), (.ref ay)])
        have X_ay := X_ay.ext N_s2y
        have F0_ay := F0_ay.ext N_s2y
        have F1_ay := F1_ay.ext N_s2y
        have F2_ay := F2_ay.ext N_s2y
        have S_s1y := S_s1y.ext N_s2y
        refine Go.iload K (q := 166) rfl at_164 rfl ?_
        refine Go.cS K (q := 169) rfl (y := (⟨"com/example/vestline/vestline/schema/ViolationEqualsPinLaw", "str", "(I)Ljava/lang/String;"⟩ : MethodName)) (c_str l Z a0 hw (ay :: ax :: xs) n0 h19 (Nat.le_trans Z0 E0.1) ym6 z (Sa.ext E0) hz) (hw _ (List.mem_of_getElem? (i := 3) rfl)) (hw _ (List.mem_of_getElem? (i := 4) rfl)) (hw _ (List.mem_of_getElem? (i := 5) rfl)) (hw _ (List.mem_of_getElem? (i := 6) rfl)) (by decide) pd8 (argsL := [(.int ym6)]) (rest := [(.ref s2y), (.ref s1y), (.ref ay), (.ref ay)]) rfl rfl rfl rfl (W := 4) (Nat.le_of_eq rfl) (by decide) (by decide) at_166 (cells' := 38) (slots' := 78) rfl rfl (by decide) (by decide) ?_
        intro r22 h21 hQ sz_h21
        obtain ⟨s3y, rfl, N_s3y, S_s3y⟩ := hQ
        have E0 := Ext.trans E0 N_s3y
        have EX := Ext.trans EX N_s3y
        show Go p l e _ s m _ below meth c _ _ _ _ _ _ _ _ _ h21 38 78 (mkF m 169 #[.val (.int p1), .val (.int k1), .val (.int m1), .val (.int sel), .val (.int xp1), .val (.int yp2), .val (.int xk3), .val (.int yk4), .val (.int xm5), .val (.int ym6), .val (.ref ax), .val (.int (sel &&& (3 : Int32))), .unset, .unset] [(.ref s3y), (.ref s2y), (.ref s1y), (.ref ay), (.ref ay)])
        have X_ay := X_ay.ext N_s3y
        have F0_ay := F0_ay.ext N_s3y
        have F1_ay := F1_ay.ext N_s3y
        have F2_ay := F2_ay.ext N_s3y
        have S_s1y := S_s1y.ext N_s3y
        have S_s2y := S_s2y.ext N_s3y
        refine Go.cI K (q := 172) rfl (y := (⟨"com/example/vestline/vestline/schema/Violation", "<init>", "(Ljava/lang/String;Ljava/lang/String;Ljava/lang/String;)V"⟩ : MethodName)) (c_vi l Z a0 hw (ay :: ax :: xs) n0 h21 (Nat.le_trans Z0 E0.1) ay s1y s2y s3y List.mem_cons_self n_ay X_ay F0_ay F1_ay F2_ay) rfl (hw _ (List.mem_of_getElem? (i := 29) rfl)) (hw _ (List.mem_of_getElem? (i := 30) rfl)) (hw _ (List.mem_of_getElem? (i := 2) rfl)) (hw _ (List.mem_of_getElem? (i := 31) rfl)) (by decide) (a := ay) pd9 (argsL := [(.ref s1y), (.ref s2y), (.ref s3y)]) (rest := [(.ref ay)]) rfl rfl rfl rfl (W := 1) (Nat.le_of_eq rfl) (by decide) (by decide) at_169 (cells' := 38) (slots' := 78) rfl rfl (by decide) (by decide) ?_
        intro r24 h23 hQ sz_h23
        obtain ⟨rfl, Ky, X2_ay, G0_ay, G1_ay, G2_ay⟩ := hQ
        have E0 := Ext.keep E0 Ky (allS ge_E0_ay all0)
        have EX := Ext.keep EX Ky (allS ge_EX_ay all0)
        show Go p l e _ s m _ below meth c _ _ _ _ _ _ _ _ _ h23 38 78 (mkF m 172 #[.val (.int p1), .val (.int k1), .val (.int m1), .val (.int sel), .val (.int xp1), .val (.int yp2), .val (.int xk3), .val (.int yk4), .val (.int xm5), .val (.int ym6), .val (.ref ax), .val (.int (sel &&& (3 : Int32))), .unset, .unset] [(.ref ay)])
        have S_s1y := S_s1y.keepO X_ay (by decide) (hw _ (List.mem_of_getElem? (i := 1) rfl)) Ky
        have S_s2y := S_s2y.keepO X_ay (by decide) (hw _ (List.mem_of_getElem? (i := 1) rfl)) Ky
        have S_s3y := S_s3y.keepO X_ay (by decide) (hw _ (List.mem_of_getElem? (i := 1) rfl)) Ky
        have EY := Ext.refl h23
        refine Go.astore K (q := 174) rfl (L' := #[.val (.int p1), .val (.int k1), .val (.int m1), .val (.int sel), .val (.int xp1), .val (.int yp2), .val (.int xk3), .val (.int yk4), .val (.int xm5), .val (.int ym6), .val (.ref ax), .val (.int (sel &&& (3 : Int32))), .val (.ref ay), .unset]) at_172 rfl rfl ?_
        refine Go.iload K (q := 176) rfl at_174 rfl ?_
        refine Go.iload K (q := 178) rfl at_176 rfl ?_
        show Go p l e _ s m _ below meth c _ _ _ _ _ _ _ _ _ h23 38 78 (mkF m 178 #[.val (.int p1), .val (.int k1), .val (.int m1), .val (.int sel), .val (.int xp1), .val (.int yp2), .val (.int xk3), .val (.int yk4), .val (.int xm5), .val (.int ym6), .val (.ref ax), .val (.int (sel &&& (3 : Int32))), .val (.ref ay), .unset] [(.int yp2), (.int xp1)])
        have key : ∀ ev : Int32, ev = (if (own_str xp1) = (own_str yp2) ∧ (own_str xk3) = (own_str yk4) ∧ (own_str xm5) = (own_str ym6) then (1 : Int32) else 0) → Go p l e room_1 s m #[(.int p1), (.int k1), (.int m1), (.int sel)] below meth c Z "com/example/vestline/vestline/schema/ViolationEqualsPinLaw" consts_1 xs n0 room_1.cells room_1.slots (fun v h' => v = some (.int 1)) (ay :: ax :: xs) h23 38 78 (mkF m 209 #[.val (.int p1), .val (.int k1), .val (.int m1), .val (.int sel), .val (.int xp1), .val (.int yp2), .val (.int xk3), .val (.int yk4), .val (.int xm5), .val (.int ym6), .val (.ref ax), .val (.int (sel &&& (3 : Int32))), .val (.ref ay), .unset] [(.int ev)]) := by
          intro ev hev
          refine Go.istore K (q := 211) rfl (L' := #[.val (.int p1), .val (.int k1), .val (.int m1), .val (.int sel), .val (.int xp1), .val (.int yp2), .val (.int xk3), .val (.int yk4), .val (.int xm5), .val (.int ym6), .val (.ref ax), .val (.int (sel &&& (3 : Int32))), .val (.ref ay), .val (.int ev)]) at_209 rfl ?_
          refine Go.aload K (q := 213) rfl at_211 rfl rfl ?_
          refine Go.aload K (q := 215) rfl at_213 rfl rfl ?_
          refine Go.cV K (q := 218) rfl (y := (⟨"com/example/vestline/vestline/schema/Violation", "equals", "(Ljava/lang/Object;)Z"⟩ : MethodName)) (z := (⟨"com/example/vestline/vestline/schema/Violation", "equals", "(Ljava/lang/Object;)Z"⟩ : MethodName)) (c_eq l Z a0 hw (ay :: ax :: xs) n0 h23 (Nat.le_trans Z0 E0.1) ax ay s1x s2x s3x s1y s2y s3y (own_str xp1) (own_str xk3) (own_str xm5) (own_str yp2) (own_str yk4) (own_str ym6) z (Sa.ext E0) hz (X2_ay.ext EY) (G0_ax.ext EX) (G0_ay.ext EY) (S_s1x.ext EX) (S_s1y.ext EY) (own_len _) (own_len _) (G1_ax.ext EX) (G1_ay.ext EY) (S_s2x.ext EX) (S_s2y.ext EY) (own_len _) (own_len _) (G2_ax.ext EX) (G2_ay.ext EY) (S_s3x.ext EX) (S_s3y.ext EY) (own_len _) (own_len _)) (hw _ (List.mem_of_getElem? (i := 39) rfl)) (hw _ (List.mem_of_getElem? (i := 40) rfl)) (nfS (hw _ (List.mem_of_getElem? (i := 42) rfl))) (hw _ (List.mem_of_getElem? (i := 42) rfl)) (hw _ (List.mem_of_getElem? (i := 41) rfl)) (hw _ (List.mem_of_getElem? (i := 2) rfl)) (hw _ (List.mem_of_getElem? (i := 43) rfl)) (by decide) (X2_ax.ext EX) pd7 (argsL := [(.ref ay)]) (rest := []) rfl rfl rfl rfl (W := 0) (Nat.le_of_eq rfl) (by decide) (by decide) at_215 (cells' := 38) (slots' := 78) rfl rfl (by decide) (by decide) ?_
          intro r26 h25 hQ sz_h25
          obtain ⟨rfl, rfl⟩ := hQ
          show Go p l e _ s m _ below meth c _ _ _ _ _ _ _ _ _ h23 38 78 (mkF m 218 #[.val (.int p1), .val (.int k1), .val (.int m1), .val (.int sel), .val (.int xp1), .val (.int yp2), .val (.int xk3), .val (.int yk4), .val (.int xm5), .val (.int ym6), .val (.ref ax), .val (.int (sel &&& (3 : Int32))), .val (.ref ay), .val (.int ev)] [(.int (if (own_str xp1) = (own_str yp2) ∧ (own_str xk3) = (own_str yk4) ∧ (own_str xm5) = (own_str ym6) then 1 else 0))])
          refine Go.iload K (q := 220) rfl at_218 rfl ?_
          refine Go.icmpN K (q := 223) rfl at_220 (show (if (own_str xp1) = (own_str yp2) ∧ (own_str xk3) = (own_str yk4) ∧ (own_str xm5) = (own_str ym6) then 1 else 0) = ev from hev.symm) ?_
          refine Go.aload K (q := 225) rfl at_223 rfl rfl ?_
          refine Go.aload K (q := 227) rfl at_225 rfl rfl ?_
          refine Go.cV K (q := 230) rfl (y := (⟨"com/example/vestline/vestline/schema/Violation", "equals", "(Ljava/lang/Object;)Z"⟩ : MethodName)) (z := (⟨"com/example/vestline/vestline/schema/Violation", "equals", "(Ljava/lang/Object;)Z"⟩ : MethodName)) (c_eq l Z a0 hw (ay :: ax :: xs) n0 h23 (Nat.le_trans Z0 E0.1) ay ax s1y s2y s3y s1x s2x s3x (own_str yp2) (own_str yk4) (own_str ym6) (own_str xp1) (own_str xk3) (own_str xm5) z (Sa.ext E0) hz (X2_ax.ext EX) (G0_ay.ext EY) (G0_ax.ext EX) (S_s1y.ext EY) (S_s1x.ext EX) (own_len _) (own_len _) (G1_ay.ext EY) (G1_ax.ext EX) (S_s2y.ext EY) (S_s2x.ext EX) (own_len _) (own_len _) (G2_ay.ext EY) (G2_ax.ext EX) (S_s3y.ext EY) (S_s3x.ext EX) (own_len _) (own_len _)) (hw _ (List.mem_of_getElem? (i := 39) rfl)) (hw _ (List.mem_of_getElem? (i := 40) rfl)) (nfS (hw _ (List.mem_of_getElem? (i := 42) rfl))) (hw _ (List.mem_of_getElem? (i := 42) rfl)) (hw _ (List.mem_of_getElem? (i := 41) rfl)) (hw _ (List.mem_of_getElem? (i := 2) rfl)) (hw _ (List.mem_of_getElem? (i := 43) rfl)) (by decide) (X2_ay.ext EY) pd7 (argsL := [(.ref ax)]) (rest := []) rfl rfl rfl rfl (W := 0) (Nat.le_of_eq rfl) (by decide) (by decide) at_227 (cells' := 38) (slots' := 78) rfl rfl (by decide) (by decide) ?_
          intro r28 h27 hQ sz_h27
          obtain ⟨rfl, rfl⟩ := hQ
          show Go p l e _ s m _ below meth c _ _ _ _ _ _ _ _ _ h23 38 78 (mkF m 230 #[.val (.int p1), .val (.int k1), .val (.int m1), .val (.int sel), .val (.int xp1), .val (.int yp2), .val (.int xk3), .val (.int yk4), .val (.int xm5), .val (.int ym6), .val (.ref ax), .val (.int (sel &&& (3 : Int32))), .val (.ref ay), .val (.int ev)] [(.int (if (own_str yp2) = (own_str xp1) ∧ (own_str yk4) = (own_str xk3) ∧ (own_str ym6) = (own_str xm5) then 1 else 0))])
          refine Go.iload K (q := 232) rfl at_230 rfl ?_
          refine Go.icmpN K (q := 235) rfl at_232 (show (if (own_str yp2) = (own_str xp1) ∧ (own_str yk4) = (own_str xk3) ∧ (own_str ym6) = (own_str xm5) then 1 else 0) = ev from ((own_sym _ _ _ _ _ _).trans hev.symm)) ?_
          refine Go.iconst K (q := 236) rfl (v := (1 : Int32)) (by decide) at_235 ?_
          refine Go.goto K (q := 240) (by decide) (by decide) at_236 ?_
          exact Go.retN K (by simp) at_240 (by decide) (by decide) (fun _ q => (List.mem_cons_of_mem _ (List.mem_cons_of_mem _ q))) (rfl)
        refine Go.cS K (q := 181) rfl (y := (⟨"com/example/vestline/vestline/schema/ViolationEqualsPinLaw", "same", "(II)Z"⟩ : MethodName)) (c_same l Z a0 hw (ay :: ax :: xs) n0 h23 (Nat.le_trans Z0 E0.1) xp1 yp2) (hw _ (List.mem_of_getElem? (i := 62) rfl)) (hw _ (List.mem_of_getElem? (i := 63) rfl)) (hw _ (List.mem_of_getElem? (i := 5) rfl)) (hw _ (List.mem_of_getElem? (i := 64) rfl)) (by decide) pd10 (argsL := [(.int xp1), (.int yp2)]) (rest := []) rfl rfl rfl rfl (W := 0) (Nat.le_of_eq rfl) (by decide) (by decide) at_178 (cells' := 38) (slots' := 78) rfl rfl (by decide) (by decide) ?_
        intro r30 h29 hQ sz_h29
        obtain ⟨rfl, rfl⟩ := hQ
        show Go p l e _ s m _ below meth c _ _ _ _ _ _ _ _ _ h23 38 78 (mkF m 181 #[.val (.int p1), .val (.int k1), .val (.int m1), .val (.int sel), .val (.int xp1), .val (.int yp2), .val (.int xk3), .val (.int yk4), .val (.int xm5), .val (.int ym6), .val (.ref ax), .val (.int (sel &&& (3 : Int32))), .val (.ref ay), .unset] [(.int (own_same xp1 yp2))])
        refine Go.ifc K (q := 208) (q' := 184) (by decide) (by decide) rfl at_181 (fun (hs : (own_same xp1 yp2) = (0 : Int32)) => ?_) (fun (hs : ¬ (own_same xp1 yp2) = (0 : Int32)) => ?_)
        · skip
          refine Go.iconst K (q := 209) rfl (v := (0 : Int32)) (by decide) at_208 ?_
          exact key _ (if_neg fun q => own_s0 (own_m exp1) (own_m eyp2) hs q.1).symm
        · skip
          have hs0 := own_s1 (own_m exp1) (own_m eyp2) hs
          refine Go.iload K (q := 186) rfl at_184 rfl ?_
          refine Go.iload K (q := 188) rfl at_186 rfl ?_
          refine Go.cS K (q := 191) rfl (y := (⟨"com/example/vestline/vestline/schema/ViolationEqualsPinLaw", "same", "(II)Z"⟩ : MethodName)) (c_same l Z a0 hw (ay :: ax :: xs) n0 h23 (Nat.le_trans Z0 E0.1) xk3 yk4) (hw _ (List.mem_of_getElem? (i := 62) rfl)) (hw _ (List.mem_of_getElem? (i := 63) rfl)) (hw _ (List.mem_of_getElem? (i := 5) rfl)) (hw _ (List.mem_of_getElem? (i := 64) rfl)) (by decide) pd10 (argsL := [(.int xk3), (.int yk4)]) (rest := []) rfl rfl rfl rfl (W := 0) (Nat.le_of_eq rfl) (by decide) (by decide) at_188 (cells' := 38) (slots' := 78) rfl rfl (by decide) (by decide) ?_
          intro r32 h31 hQ sz_h31
          obtain ⟨rfl, rfl⟩ := hQ
          show Go p l e _ s m _ below meth c _ _ _ _ _ _ _ _ _ h23 38 78 (mkF m 191 #[.val (.int p1), .val (.int k1), .val (.int m1), .val (.int sel), .val (.int xp1), .val (.int yp2), .val (.int xk3), .val (.int yk4), .val (.int xm5), .val (.int ym6), .val (.ref ax), .val (.int (sel &&& (3 : Int32))), .val (.ref ay), .unset] [(.int (own_same xk3 yk4))])
          refine Go.ifc K (q := 208) (q' := 194) (by decide) (by decide) rfl at_191 (fun (hs : (own_same xk3 yk4) = (0 : Int32)) => ?_) (fun (hs : ¬ (own_same xk3 yk4) = (0 : Int32)) => ?_)
          · skip
            refine Go.iconst K (q := 209) rfl (v := (0 : Int32)) (by decide) at_208 ?_
            exact key _ (if_neg fun q => own_s0 (own_m exk3) (own_m eyk4) hs q.2.1).symm
          · skip
            have hs1 := own_s1 (own_m exk3) (own_m eyk4) hs
            refine Go.iload K (q := 196) rfl at_194 rfl ?_
            refine Go.iload K (q := 198) rfl at_196 rfl ?_
            refine Go.cS K (q := 201) rfl (y := (⟨"com/example/vestline/vestline/schema/ViolationEqualsPinLaw", "same", "(II)Z"⟩ : MethodName)) (c_same l Z a0 hw (ay :: ax :: xs) n0 h23 (Nat.le_trans Z0 E0.1) xm5 ym6) (hw _ (List.mem_of_getElem? (i := 62) rfl)) (hw _ (List.mem_of_getElem? (i := 63) rfl)) (hw _ (List.mem_of_getElem? (i := 5) rfl)) (hw _ (List.mem_of_getElem? (i := 64) rfl)) (by decide) pd10 (argsL := [(.int xm5), (.int ym6)]) (rest := []) rfl rfl rfl rfl (W := 0) (Nat.le_of_eq rfl) (by decide) (by decide) at_198 (cells' := 38) (slots' := 78) rfl rfl (by decide) (by decide) ?_
            intro r34 h33 hQ sz_h33
            obtain ⟨rfl, rfl⟩ := hQ
            show Go p l e _ s m _ below meth c _ _ _ _ _ _ _ _ _ h23 38 78 (mkF m 201 #[.val (.int p1), .val (.int k1), .val (.int m1), .val (.int sel), .val (.int xp1), .val (.int yp2), .val (.int xk3), .val (.int yk4), .val (.int xm5), .val (.int ym6), .val (.ref ax), .val (.int (sel &&& (3 : Int32))), .val (.ref ay), .unset] [(.int (own_same xm5 ym6))])
            refine Go.ifc K (q := 208) (q' := 204) (by decide) (by decide) rfl at_201 (fun (hs : (own_same xm5 ym6) = (0 : Int32)) => ?_) (fun (hs : ¬ (own_same xm5 ym6) = (0 : Int32)) => ?_)
            · skip
              refine Go.iconst K (q := 209) rfl (v := (0 : Int32)) (by decide) at_208 ?_
              exact key _ (if_neg fun q => own_s0 (own_m exm5) (own_m eym6) hs q.2.2).symm
            · skip
              have hs2 := own_s1 (own_m exm5) (own_m eym6) hs
              refine Go.iconst K (q := 205) rfl (v := (1 : Int32)) (by decide) at_204 ?_
              refine Go.goto K (q := 209) (by decide) (by decide) at_205 ?_
              exact key _ (if_pos ⟨hs0, hs1, hs2⟩).symm
      · skip
        refine Go.aload K (q := 144) rfl at_142 rfl rfl ?_
        refine Go.aload K (q := 146) rfl at_144 rfl rfl ?_
        refine Go.cV K (q := 149) rfl (y := (⟨"com/example/vestline/vestline/schema/Violation", "equals", "(Ljava/lang/Object;)Z"⟩ : MethodName)) (z := (⟨"com/example/vestline/vestline/schema/Violation", "equals", "(Ljava/lang/Object;)Z"⟩ : MethodName)) (c_eq l Z a0 hw (ax :: xs) n0 h14 (Nat.le_trans Z0 E0.1) ax ax s1x s2x s3x s1x s2x s3x (own_str xp1) (own_str xk3) (own_str xm5) (own_str xp1) (own_str xk3) (own_str xm5) z (Sa.ext E0) hz (X2_ax.ext EX) (G0_ax.ext EX) (G0_ax.ext EX) (S_s1x.ext EX) (S_s1x.ext EX) (own_len _) (own_len _) (G1_ax.ext EX) (G1_ax.ext EX) (S_s2x.ext EX) (S_s2x.ext EX) (own_len _) (own_len _) (G2_ax.ext EX) (G2_ax.ext EX) (S_s3x.ext EX) (S_s3x.ext EX) (own_len _) (own_len _)) (hw _ (List.mem_of_getElem? (i := 39) rfl)) (hw _ (List.mem_of_getElem? (i := 40) rfl)) (nfS (hw _ (List.mem_of_getElem? (i := 42) rfl))) (hw _ (List.mem_of_getElem? (i := 42) rfl)) (hw _ (List.mem_of_getElem? (i := 41) rfl)) (hw _ (List.mem_of_getElem? (i := 2) rfl)) (hw _ (List.mem_of_getElem? (i := 43) rfl)) (by decide) (X2_ax.ext EX) pd7 (argsL := [(.ref ax)]) (rest := []) rfl rfl rfl rfl (W := 0) (Nat.le_of_eq rfl) (by decide) (by decide) at_146 (cells' := 19) (slots' := 39) rfl rfl (by decide) (by decide) ?_
        intro r36 h35 hQ sz_h35
        obtain ⟨rfl, rfl⟩ := hQ
        show Go p l e _ s m _ below meth c _ _ _ _ _ _ _ _ _ h14 19 39 (mkF m 149 #[.val (.int p1), .val (.int k1), .val (.int m1), .val (.int sel), .val (.int xp1), .val (.int yp2), .val (.int xk3), .val (.int yk4), .val (.int xm5), .val (.int ym6), .val (.ref ax), .val (.int (sel &&& (3 : Int32))), .unset, .unset] [(.int (if (own_str xp1) = (own_str xp1) ∧ (own_str xk3) = (own_str xk3) ∧ (own_str xm5) = (own_str xm5) then 1 else 0))])
        exact Go.retN K (by simp) at_149 (by decide) (by decide) (fun _ q => (List.mem_cons_of_mem _ q)) (by rw [if_pos ⟨rfl, rfl, rfl⟩]; rfl)
    · skip
      refine Go.iload K (q := 115) rfl at_113 rfl ?_
      refine Go.cS K (q := 118) rfl (y := (⟨"com/example/vestline/vestline/schema/ViolationEqualsPinLaw", "str", "(I)Ljava/lang/String;"⟩ : MethodName)) (c_str l Z a0 hw (ax :: xs) n0 h14 (Nat.le_trans Z0 E0.1) xp1 z (Sa.ext E0) hz) (hw _ (List.mem_of_getElem? (i := 3) rfl)) (hw _ (List.mem_of_getElem? (i := 4) rfl)) (hw _ (List.mem_of_getElem? (i := 5) rfl)) (hw _ (List.mem_of_getElem? (i := 6) rfl)) (by decide) pd8 (argsL := [(.int xp1)]) (rest := []) rfl rfl rfl rfl (W := 0) (Nat.le_of_eq rfl) (by decide) (by decide) at_115 (cells' := 25) (slots' := 51) rfl rfl (by decide) (by decide) ?_
      intro r38 h37 hQ sz_h37
      obtain ⟨sq, rfl, N_sq, S_sq⟩ := hQ
      have E0 := Ext.trans E0 N_sq
      have EX := Ext.trans EX N_sq
      show Go p l e _ s m _ below meth c _ _ _ _ _ _ _ _ _ h37 25 51 (mkF m 118 #[.val (.int p1), .val (.int k1), .val (.int m1), .val (.int sel), .val (.int xp1), .val (.int yp2), .val (.int xk3), .val (.int yk4), .val (.int xm5), .val (.int ym6), .val (.ref ax), .val (.int (sel &&& (3 : Int32))), .unset, .unset] [(.ref sq)])
      refine Go.astore K (q := 120) rfl (L' := #[.val (.int p1), .val (.int k1), .val (.int m1), .val (.int sel), .val (.int xp1), .val (.int yp2), .val (.int xk3), .val (.int yk4), .val (.int xm5), .val (.int ym6), .val (.ref ax), .val (.int (sel &&& (3 : Int32))), .val (.ref sq), .unset]) at_118 rfl rfl ?_
      refine Go.aload K (q := 122) rfl at_120 rfl rfl ?_
      refine Go.aload K (q := 124) rfl at_122 rfl rfl ?_
      refine Go.cV K (q := 127) rfl (y := (⟨"com/example/vestline/vestline/schema/Violation", "equals", "(Ljava/lang/Object;)Z"⟩ : MethodName)) (z := (⟨"com/example/vestline/vestline/schema/Violation", "equals", "(Ljava/lang/Object;)Z"⟩ : MethodName)) (c_eqs l Z a0 hw (ax :: xs) n0 h37 (Nat.le_trans Z0 E0.1) ax sq S_sq.exa) (hw _ (List.mem_of_getElem? (i := 39) rfl)) (hw _ (List.mem_of_getElem? (i := 40) rfl)) (nfS (hw _ (List.mem_of_getElem? (i := 42) rfl))) (hw _ (List.mem_of_getElem? (i := 42) rfl)) (hw _ (List.mem_of_getElem? (i := 41) rfl)) (hw _ (List.mem_of_getElem? (i := 2) rfl)) (hw _ (List.mem_of_getElem? (i := 43) rfl)) (by decide) (X2_ax.ext EX) pd7 (argsL := [(.ref sq)]) (rest := []) rfl rfl rfl rfl (W := 0) (Nat.le_of_eq rfl) (by decide) (by decide) at_124 (cells' := 25) (slots' := 51) rfl rfl (by decide) (by decide) ?_
      intro r40 h39 hQ sz_h39
      obtain ⟨rfl, rfl⟩ := hQ
      show Go p l e _ s m _ below meth c _ _ _ _ _ _ _ _ _ h37 25 51 (mkF m 127 #[.val (.int p1), .val (.int k1), .val (.int m1), .val (.int sel), .val (.int xp1), .val (.int yp2), .val (.int xk3), .val (.int yk4), .val (.int xm5), .val (.int ym6), .val (.ref ax), .val (.int (sel &&& (3 : Int32))), .val (.ref sq), .unset] [(.int (0 : Int32))])
      refine Go.ifN K (q := 130) rfl at_127 (show (0 : Int32) = (0 : Int32) from rfl) ?_
      refine Go.iconst K (q := 131) rfl (v := (1 : Int32)) (by decide) at_130 ?_
      refine Go.goto K (q := 135) (by decide) (by decide) at_131 ?_
      exact Go.retN K (by simp) at_135 (by decide) (by decide) (fun _ q => (List.mem_cons_of_mem _ q)) (rfl)
  · skip
    refine Go.aload K (q := 94) rfl at_92 rfl rfl ?_
    refine Go.aconstNull K (q := 95) rfl at_94 ?_
    refine Go.cV K (q := 98) rfl (y := (⟨"com/example/vestline/vestline/schema/Violation", "equals", "(Ljava/lang/Object;)Z"⟩ : MethodName)) (z := (⟨"com/example/vestline/vestline/schema/Violation", "equals", "(Ljava/lang/Object;)Z"⟩ : MethodName)) (c_eqn l Z a0 hw (ax :: xs) n0 h14 (Nat.le_trans Z0 E0.1) ax) (hw _ (List.mem_of_getElem? (i := 39) rfl)) (hw _ (List.mem_of_getElem? (i := 40) rfl)) (nfS (hw _ (List.mem_of_getElem? (i := 42) rfl))) (hw _ (List.mem_of_getElem? (i := 42) rfl)) (hw _ (List.mem_of_getElem? (i := 41) rfl)) (hw _ (List.mem_of_getElem? (i := 2) rfl)) (hw _ (List.mem_of_getElem? (i := 43) rfl)) (by decide) (X2_ax.ext EX) pd7 (argsL := [.null]) (rest := []) rfl rfl rfl rfl (W := 0) (Nat.le_of_eq rfl) (by decide) (by decide) at_95 (cells' := 19) (slots' := 39) rfl rfl (by decide) (by decide) ?_
    intro r42 h41 hQ sz_h41
    obtain ⟨rfl, rfl⟩ := hQ
    show Go p l e _ s m _ below meth c _ _ _ _ _ _ _ _ _ h14 19 39 (mkF m 98 #[.val (.int p1), .val (.int k1), .val (.int m1), .val (.int sel), .val (.int xp1), .val (.int yp2), .val (.int xk3), .val (.int yk4), .val (.int xm5), .val (.int ym6), .val (.ref ax), .val (.int (sel &&& (3 : Int32))), .unset, .unset] [(.int (0 : Int32))])
    refine Go.ifN K (q := 101) rfl at_98 (show (0 : Int32) = (0 : Int32) from rfl) ?_
    refine Go.iconst K (q := 102) rfl (v := (1 : Int32)) (by decide) at_101 ?_
    refine Go.goto K (q := 106) (by decide) (by decide) at_102 ?_
    exact Go.retN K (by simp) at_106 (by decide) (by decide) (fun _ q => (List.mem_cons_of_mem _ q)) (rfl)
set_option maxRecDepth 65536 in
set_option maxHeartbeats 40000000 in
theorem comes_1 {Post : Tables → Env → Array Value → State → Outcome → State → Prop} (hpost : ∀ tb e args s v u, (limb_1_1.after args s (.returned v) u = true ∧ limb_1_2.after args s (.returned v) u = true ∧ True) → ReturnedEndW s (.returned v) u (Jvm.fieldLocs frame_1_writes args s ++ Jvm.arrayLocs frame_1_arrays args s ++ Jvm.staticLocs frame_1_statics s) 40 1216 → Post tb e args s (.returned v) u) :
    ArmFor flags0 classFile x code maxLocals ret World_1 tables_1 room_1 Calls_1 rest_1 Pre_1 Post := by
  intro l hfl _ _ p e ha hc hk s m args below hf hA hF happ hP
  obtain ⟨hcalls, hrest, hpre⟩ := hP
  obtain ⟨-, -, -, hnamed, -, -, -, hat⟩ := (Spec.applies_iff hf).mp happ
  obtain ⟨hg, hn⟩ := and_e (Cond.before_iff.mp (show (Jvm.Cond.and given_1 narrow_1).before args s = true from hpre))
  obtain ⟨h1, k0⟩ := and_e hg
  obtain ⟨g0, k1⟩ := and_e k0
  obtain ⟨g1, k2⟩ := and_e k1
  obtain ⟨g2, k3⟩ := and_e k2
  obtain ⟨w0, w1, w2, w3, rfl⟩ : ∃ w0 w1 w2 w3 : Value, args = #[w0, w1, w2, w3] := by
    have hs : args.size = 4 := by simpa [Cond.value, given_1] using h1
    obtain ⟨L⟩ := args
    match L, hs with
    | [w0, w1, w2, w3], _ => exact ⟨w0, w1, w2, w3, rfl⟩
  have hw := fun d (hd : d ∈ tables_1) => atoms_spec (ws := Jvm.Cond.code x code maxLocals ret :: tables_1) hat d (List.mem_cons_of_mem _ hd)
  obtain ⟨hsets, hown0⟩ := atoms_of _ (rest_1_c_eq ▸ (show rest_1_c.before _ s = true from hrest))
  have hfit : Fit s := fun {y c} hc i hi => by
    obtain ⟨ha, rfl⟩ := Array.getElem?_eq_some_iff.mp hc
    have q := List.all_eq_true.mp ((Array.all_eq_true_iff_forall_mem.mp hF) _ (Array.getElem_mem ha)) i (List.mem_range.mpr hi)
    simpa [Array.getElem?_eq_getElem hi] using q
  obtain ⟨i0, q0⟩ := is_v g0
  obtain rfl : w0 = (.int i0) := Option.some.inj q0
  obtain ⟨i1, q1⟩ := is_v g1
  obtain rfl : w1 = (.int i1) := Option.some.inj q1
  obtain ⟨i2, q2⟩ := is_v g2
  obtain rfl : w2 = (.int i2) := Option.some.inj q2
  obtain ⟨i3, q3⟩ := is_v k3
  obtain rfl : w3 = (.int i3) := Option.some.inj q3
  have n5 := not_v (Cond.before_iff.mp (hsets _ (List.mem_of_getElem? (i := 2) rfl)))
  obtain ⟨zs, ez⟩ := is_v (Cond.before_iff.mp (hsets _ (List.mem_of_getElem? (i := 1) rfl)))
  have Sa : Sta s s.heap "java/lang/String" "COMPACT_STRINGS" "Z" (.int zs) := Sta.start ez (Or.inl (hsets _ (List.mem_of_getElem? (i := 0) rfl)))
  have hz : ¬ (zs = (0 : Int32)) := gotF (Cond.eq_ints ez (Term.int_eval (0))) n5
  have wa : (Jvm.Cond.arrayClass .byte).before _ s = true := hw _ (by decide +kernel)
  have wi : (Jvm.Cond.instantiable "java/lang/String" 4).before _ s = true := hw _ (by decide +kernel)
  have HL : Lits s consts_1 [] s.vm s.heap := Lits.start (a0 := _) (fun q hq => hcalls.1 q hq) (fun q hq => by
    simp only [consts_1, List.mem_cons, List.not_mem_nil, or_false] at hq
    rcases hq with rfl
    · exact ⟨"", (hw _ (List.mem_of_getElem? (i := 21) rfl)), by decide⟩) (hsets _ (List.mem_of_getElem? (i := 2) rfl)) wa wi
  obtain ⟨n, o, h1, h2, h3, _, L, rfl, ⟨rfl, -, N⟩, hq⟩ := rm0 l s _ hw tables_1 [] s.heap.size s.heap (Nat.le_refl _) i0 i1 i2 i3 zs Sa hz  p e ha hc hk s m _ below hf ((Spec.applies_iff_loose hf).mp happ).1 ⟨rfl, State.Warmed39.refl s, rfl, HL⟩ trivial
  refine ⟨n, _, h1, h2, h3, hpost _ _ _ _ _ _ ⟨Cond.after_iff.mpr rfl, Cond.after_iff.mpr (eq_i res_at (Term.int_eval (1)) rfl), trivial⟩ ⟨hq.1, hq.2.1, hq.2.2.1, (hq.2.2.2.sift fun y hy => Or.inr (N y hy)).mono (by decide) (by decide)⟩⟩
theorem main_1_1 : Claimed_1_1 := comes_1 fun _ _ _ _ _ _ h hF => ⟨h.1, hF⟩
theorem main_1_2 : Claimed_1_2 := comes_1 fun _ _ _ _ _ _ h hF => ⟨h.2.1, hF⟩
end Jvm.Pilot.@@N@@
namespace Jvm.Pilot.@@N@@
open Jvm Jvm.ClassFile Sem Op Lib Jvm.Free Jvm.Stand Jvm.Pilot.@@N@@.Jvm.D
/-! MADE BY PROGRAM (witnessworld.py) out of the Statement's table words and the real class files: 19 classes; the members and pool entries that the words name. The judged class is class 1, her method 3. -/
namespace start1
open Jvm.ClassFile
def u (s : String) : CpInfo := .utf8 (stringToUtf16 s)
/-- a pool by its gaps: so many unusable entries, then the entry; so many at the end -/
def gap : Nat → List CpInfo → List CpInfo
  | 0, r => r
  | n + 1, r => .unusable :: gap n r
def poolList (es : List (Nat × CpInfo)) (last : Nat) : List CpInfo := es.foldr (fun e r => gap e.1 (e.2 :: r)) (gap last [])
def pool (es : List (Nat × CpInfo)) (last : Nat) : Array CpInfo := ⟨poolList es last⟩
def fileOf (pool : Array CpInfo) (this : Nat) (attrs : Array Attribute := #[]) (ms : Array MethodInfo := #[]) (fl : Nat := 33) (sup : Nat := 0) (ifs : Array Nat := #[]) (fds : Array FieldInfo := #[]) : ClassFile where
  minorVersion := 0
  majorVersion := 65
  constantPool := pool
  accessFlags := fl
  thisClass := this
  superClass := sup
  interfaces := ifs
  fields := fds
  methods := ms
  attributes := attrs
def plain (name : String) (sup : Option ClassId) : Class where
  name := name
  kind := .ordinary
  loader := none
  accessFlags := 33
  super := sup
  interfaces := #[]
  cf := none
  fields := #[]
  methods := #[]
  instanceTypes := #[]
  staticTypes := #[]
  resolved := #[]
  callSites := []
  init := .initialized
  statics := none
  mirror := none

def pool0 : Array CpInfo := pool [(5, u "<init>"), (0, u "()V"), (1, .class_ 10), (1, u "java/lang/Object")] 113

def k0c0 : Code := { maxStack := 0, maxLocals := 1, code := object_method_1_code, exceptionTable := #[], attributes := #[] }
def k0m0 : Method := { name := "<init>", desc := "()V", sig := { parameters := [], returnType := none }, accessFlags := 1, code := some k0c0 }
/-- java/lang/Object -/
def k0 : Class := { plain "java/lang/Object" none with
  accessFlags := 33
  interfaces := #[]
  cf := some (fileOf pool0 8 #[] #[{ accessFlags := 1, nameIndex := 5, descriptorIndex := 6, attributes := #[] }] 33 0 #[] #[])
  fields := #[]
  methods := #[k0m0]
  instanceTypes := #[]
  staticTypes := #[]
  resolved := Array.replicate 124 none
  statics := none }

def pool1 : Array CpInfo := pool [(2, .class_ 4), (1, u "java/lang/Object"), (0, u "<init>"), (0, u "()V"), (0, .class_ 8), (0, u "java/lang/String"), (0, .methodref 7 10), (0, .nameAndType 5 11), (0, u "([C)V"), (0, .methodref 7 13), (0, .nameAndType 14 15), (0, u "valueOf"), (0, u "(C)Ljava/lang/String;"), (0, .class_ 17), (0, u "com/example/vestline/vestline/schema/Violation"), (0, .methodref 19 20), (0, .class_ 21), (0, .nameAndType 22 23), (0, u "com/example/vestline/vestline/schema/ViolationEqualsPinLaw"), (0, u "str"), (0, u "(I)Ljava/lang/String;"), (0, .methodref 16 25), (0, .nameAndType 5 26), (0, u "(Ljava/lang/String;Ljava/lang/String;Ljava/lang/String;)V"), (0, .methodref 16 28), (0, .nameAndType 29 30), (0, u "equals"), (0, u "(Ljava/lang/Object;)Z"), (0, .methodref 19 32), (0, .nameAndType 33 34), (0, u "same"), (0, u "(II)Z"), (3, u "law"), (0, u "(IIII)Z")] 2

def k1m0 : Method := { name := "<init>", desc := "()V", sig := { parameters := [], returnType := none }, accessFlags := 1, code := none }
def k1c1 : Code := { maxStack := 3, maxLocals := 1, code := method_2_code, exceptionTable := #[], attributes := #[] }
def k1m1 : Method := { name := "str", desc := "(I)Ljava/lang/String;", sig := { parameters := [.int], returnType := some (.object "java/lang/String") }, accessFlags := 10, code := some k1c1 }
def k1c2 : Code := { maxStack := 3, maxLocals := 4, code := method_3_code, exceptionTable := #[], attributes := #[] }
def k1m2 : Method := { name := "same", desc := "(II)Z", sig := { parameters := [.int, .int], returnType := some .boolean }, accessFlags := 10, code := some k1c2 }
def k1c3 : Code := { maxStack := 5, maxLocals := 14, code := code, exceptionTable := #[], attributes := #[] }
def k1m3 : Method := { name := "law", desc := "(IIII)Z", sig := { parameters := [.int, .int, .int, .int], returnType := some .boolean }, accessFlags := 9, code := some k1c3 }
/-- com/example/vestline/vestline/schema/ViolationEqualsPinLaw -/
def k1 : Class := { plain "com/example/vestline/vestline/schema/ViolationEqualsPinLaw" (some 0) with
  accessFlags := 49
  interfaces := #[]
  cf := some (fileOf pool1 19 #[] #[{ accessFlags := 1, nameIndex := 5, descriptorIndex := 6, attributes := #[] }, { accessFlags := 10, nameIndex := 22, descriptorIndex := 23, attributes := #[] }, { accessFlags := 10, nameIndex := 33, descriptorIndex := 34, attributes := #[] }, { accessFlags := 9, nameIndex := 38, descriptorIndex := 39, attributes := #[] }] 49 2 #[] #[])
  fields := #[]
  methods := #[k1m0, k1m1, k1m2, k1m3]
  instanceTypes := #[]
  staticTypes := #[]
  resolved := Array.replicate 42 none
  statics := none }

def pool2 : Array CpInfo := pool [(1, .methodref 2 3), (0, .class_ 4), (0, .nameAndType 5 6), (0, u "java/lang/Object"), (0, u "<init>"), (0, u "()V"), (0, .fieldref 8 9), (0, .class_ 10), (0, .nameAndType 11 12), (0, u "com/example/vestline/vestline/schema/Violation"), (0, u "path"), (0, u "Ljava/lang/String;"), (0, .fieldref 8 14), (0, .nameAndType 15 12), (0, u "keyword"), (0, .fieldref 8 17), (0, .nameAndType 18 12), (0, u "message"), (1, .class_ 22), (1, u "java/lang/String"), (6, .methodref 20 30), (0, .nameAndType 31 32), (0, u "equals"), (0, u "(Ljava/lang/Object;)Z"), (10, u "(Ljava/lang/String;Ljava/lang/String;Ljava/lang/String;)V")] 23

def k2c0 : Code := { maxStack := 2, maxLocals := 4, code := prog_38_method_1_code, exceptionTable := #[], attributes := #[] }
def k2m0 : Method := { name := "<init>", desc := "(Ljava/lang/String;Ljava/lang/String;Ljava/lang/String;)V", sig := { parameters := [(.object "java/lang/String"), (.object "java/lang/String"), (.object "java/lang/String")], returnType := none }, accessFlags := 0, code := some k2c0 }
def k2c1 : Code := { maxStack := 2, maxLocals := 3, code := prog_38_method_5_code, exceptionTable := #[], attributes := #[] }
def k2m1 : Method := { name := "equals", desc := "(Ljava/lang/Object;)Z", sig := { parameters := [(.object "java/lang/Object")], returnType := some .boolean }, accessFlags := 1, code := some k2c1 }
/-- com/example/vestline/vestline/schema/Violation -/
def k2 : Class := { plain "com/example/vestline/vestline/schema/Violation" (some 0) with
  accessFlags := 33
  interfaces := #[]
  cf := some (fileOf pool2 8 #[] #[{ accessFlags := 0, nameIndex := 5, descriptorIndex := 43, attributes := #[] }, { accessFlags := 1, nameIndex := 31, descriptorIndex := 32, attributes := #[] }] 33 2 #[] #[{ accessFlags := 18, nameIndex := 11, descriptorIndex := 12, attributes := #[] }, { accessFlags := 18, nameIndex := 15, descriptorIndex := 12, attributes := #[] }, { accessFlags := 18, nameIndex := 18, descriptorIndex := 12, attributes := #[] }])
  fields := #[{ name := "path", type := (.object "java/lang/String"), accessFlags := 18, slot := 0, constantValue := 0 }, { name := "keyword", type := (.object "java/lang/String"), accessFlags := 18, slot := 1, constantValue := 0 }, { name := "message", type := (.object "java/lang/String"), accessFlags := 18, slot := 2, constantValue := 0 }]
  methods := #[k2m0, k2m1]
  instanceTypes := #[(.object "java/lang/String"), (.object "java/lang/String"), (.object "java/lang/String")]
  staticTypes := #[]
  resolved := Array.replicate 67 none
  statics := none }

def pool3 : Array CpInfo := pool [(1, .class_ 2), (0, u "java/io/Serializable"), (0, .class_ 4), (0, u "java/lang/Object")] 2

/-- java/io/Serializable -/
def k3 : Class := { plain "java/io/Serializable" (some 0) with
  accessFlags := 1537
  interfaces := #[]
  cf := some (fileOf pool3 1 #[] #[] 1537 3 #[] #[])
  fields := #[]
  methods := #[]
  instanceTypes := #[]
  staticTypes := #[]
  resolved := Array.replicate 7 none
  statics := none }

def pool4 : Array CpInfo := pool [(1, .class_ 2), (0, u "java/lang/Comparable"), (0, .class_ 4), (0, u "java/lang/Object")] 7

/-- java/lang/Comparable -/
def k4 : Class := { plain "java/lang/Comparable" (some 0) with
  accessFlags := 1537
  interfaces := #[]
  cf := some (fileOf pool4 1 #[] #[] 1537 3 #[] #[])
  fields := #[]
  methods := #[]
  instanceTypes := #[]
  staticTypes := #[]
  resolved := Array.replicate 12 none
  statics := none }

def pool5 : Array CpInfo := pool [(2, .class_ 4), (1, u "java/lang/CharSequence"), (42, .class_ 48), (0, u "java/lang/CharSequence$1CodePointIterator"), (10, .class_ 60), (0, u "java/lang/CharSequence$1CharIterator"), (5, .class_ 67), (0, u "java/lang/Object")] 63

/-- java/lang/CharSequence -/
def k5 : Class := { plain "java/lang/CharSequence" (some 0) with
  accessFlags := 1537
  interfaces := #[]
  cf := some (fileOf pool5 2 #[.nestMembers #[47, 59]] #[] 1537 66 #[] #[])
  fields := #[]
  methods := #[]
  instanceTypes := #[]
  staticTypes := #[]
  resolved := Array.replicate 131 none
  statics := none }

def pool6 : Array CpInfo := pool [(1, .class_ 2), (0, u "java/lang/constant/Constable"), (0, .class_ 4), (0, u "java/lang/Object")] 6

/-- java/lang/constant/Constable -/
def k6 : Class := { plain "java/lang/constant/Constable" (some 0) with
  accessFlags := 1537
  interfaces := #[]
  cf := some (fileOf pool6 1 #[] #[] 1537 3 #[] #[])
  fields := #[]
  methods := #[]
  instanceTypes := #[]
  staticTypes := #[]
  resolved := Array.replicate 11 none
  statics := none }

def pool7 : Array CpInfo := pool [(1, .class_ 2), (0, u "java/lang/constant/ConstantDesc"), (0, .class_ 4), (0, u "java/lang/Object")] 32

/-- java/lang/constant/ConstantDesc -/
def k7 : Class := { plain "java/lang/constant/ConstantDesc" (some 0) with
  accessFlags := 1537
  interfaces := #[]
  cf := some (fileOf pool7 1 #[] #[] 1537 3 #[] #[])
  fields := #[]
  methods := #[]
  instanceTypes := #[]
  staticTypes := #[]
  resolved := Array.replicate 37 none
  statics := none }

def pool8 : Array CpInfo := pool [(1, .methodref 2 3), (0, .class_ 4), (0, .nameAndType 5 6), (0, u "java/lang/Object"), (0, u "<init>"), (0, u "()V"), (0, .string 8), (0, u ""), (0, .fieldref 10 11), (0, .class_ 12), (0, .nameAndType 13 14), (0, u "java/lang/String"), (0, u "value"), (0, u "[B"), (0, .fieldref 10 16), (0, .nameAndType 17 18), (0, u "coder"), (0, u "B"), (2, u "hash"), (0, u "I"), (2, u "hashIsZero"), (0, u "Z"), (0, .methodref 10 28), (0, .nameAndType 5 29), (0, u "([CIILjava/lang/Void;)V"), (8, .fieldref 10 39), (0, .nameAndType 40 26), (0, u "COMPACT_STRINGS"), (12, u "toBytes"), (53, .class_ 109), (1, u "java/lang/StringLatin1"), (99, .methodref 10 210), (0, .nameAndType 5 211), (0, u "([BB)V"), (157, u "(C)Z"), (171, .methodref 107 542), (0, .nameAndType 543 544), (0, u "equals"), (0, u "([B[B)Z"), (28, u "(Ljava/lang/Object;)Z"), (1, .class_ 576), (0, u "java/lang/CharSequence"), (22, u "CASE_INSENSITIVE_ORDER"), (0, u "Ljava/util/Comparator;"), (181, u "valueOf"), (0, u "(C)Ljava/lang/String;"), (226, u "([C)V"), (4, .methodref 107 1016), (0, .nameAndType 1017 369), (0, u "canEncode"), (0, .methodref 107 1019), (0, .nameAndType 53 1020), (0, u "(C)[B"), (80, u "serialPersistentFields"), (0, u "[Ljava/io/ObjectStreamField;"), (0, .class_ 1104), (0, u "java/lang/String$CaseInsensitiveComparator"), (1, .class_ 1107), (0, u "java/io/Serializable"), (0, .class_ 1109), (0, u "java/lang/Comparable"), (0, .class_ 1111), (0, u "java/lang/constant/Constable"), (0, .class_ 1113), (0, u "java/lang/constant/ConstantDesc"), (2, u "serialVersionUID"), (0, u "J"), (3, u "REPL"), (0, u "C"), (2, u "LATIN1"), (1, u "UTF16")] 323

def k8m0 : Method := { name := "<init>", desc := "()V", sig := { parameters := [], returnType := none }, accessFlags := 1, code := none }
def k8c1 : Code := { maxStack := 5, maxLocals := 2, code := jdk_42_method_3_code, exceptionTable := #[], attributes := #[] }
def k8m1 : Method := { name := "<init>", desc := "([C)V", sig := { parameters := [(.array .char)], returnType := none }, accessFlags := 1, code := some k8c1 }
def k8c2 : Code := { maxStack := 2, maxLocals := 3, code := jdk_42_method_66_code, exceptionTable := #[], attributes := #[] }
def k8m2 : Method := { name := "equals", desc := "(Ljava/lang/Object;)Z", sig := { parameters := [(.object "java/lang/Object")], returnType := some .boolean }, accessFlags := 1, code := some k8c2 }
def k8c3 : Code := { maxStack := 4, maxLocals := 1, code := jdk_42_method_139_code, exceptionTable := #[], attributes := #[] }
def k8m3 : Method := { name := "valueOf", desc := "(C)Ljava/lang/String;", sig := { parameters := [.char], returnType := some (.object "java/lang/String") }, accessFlags := 9, code := some k8c3 }
def k8c4 : Code := { maxStack := 4, maxLocals := 6, code := jdk_42_method_149_code, exceptionTable := #[], attributes := #[] }
def k8m4 : Method := { name := "<init>", desc := "([CIILjava/lang/Void;)V", sig := { parameters := [(.array .char), .int, .int, (.object "java/lang/Void")], returnType := none }, accessFlags := 2, code := some k8c4 }
def k8c5 : Code := { maxStack := 2, maxLocals := 3, code := jdk_42_method_151_code, exceptionTable := #[], attributes := #[] }
def k8m5 : Method := { name := "<init>", desc := "([BB)V", sig := { parameters := [(.array .byte), .byte], returnType := none }, accessFlags := 0, code := some k8c5 }
/-- java/lang/String -/
def k8 : Class := { plain "java/lang/String" (some 0) with
  accessFlags := 49
  interfaces := #[3, 4, 5, 6, 7]
  cf := some (fileOf pool8 10 #[.nestMembers #[1103]] #[{ accessFlags := 1, nameIndex := 5, descriptorIndex := 6, attributes := #[] }, { accessFlags := 1, nameIndex := 5, descriptorIndex := 1010, attributes := #[] }, { accessFlags := 1, nameIndex := 543, descriptorIndex := 573, attributes := #[] }, { accessFlags := 9, nameIndex := 782, descriptorIndex := 783, attributes := #[] }, { accessFlags := 2, nameIndex := 5, descriptorIndex := 29, attributes := #[] }, { accessFlags := 0, nameIndex := 5, descriptorIndex := 211, attributes := #[] }] 49 2 #[1106, 1108, 575, 1110, 1112] #[{ accessFlags := 18, nameIndex := 13, descriptorIndex := 14, attributes := #[] }, { accessFlags := 18, nameIndex := 17, descriptorIndex := 18, attributes := #[] }, { accessFlags := 2, nameIndex := 21, descriptorIndex := 22, attributes := #[] }, { accessFlags := 2, nameIndex := 25, descriptorIndex := 26, attributes := #[] }, { accessFlags := 26, nameIndex := 1116, descriptorIndex := 1117, attributes := #[] }, { accessFlags := 24, nameIndex := 40, descriptorIndex := 26, attributes := #[] }, { accessFlags := 26, nameIndex := 1101, descriptorIndex := 1102, attributes := #[] }, { accessFlags := 26, nameIndex := 1121, descriptorIndex := 1122, attributes := #[] }, { accessFlags := 25, nameIndex := 599, descriptorIndex := 600, attributes := #[] }, { accessFlags := 24, nameIndex := 1125, descriptorIndex := 18, attributes := #[] }, { accessFlags := 24, nameIndex := 1127, descriptorIndex := 18, attributes := #[] }])
  fields := #[{ name := "value", type := (.array .byte), accessFlags := 18, slot := 0, constantValue := 0 }, { name := "coder", type := .byte, accessFlags := 18, slot := 1, constantValue := 0 }, { name := "hash", type := .int, accessFlags := 2, slot := 2, constantValue := 0 }, { name := "hashIsZero", type := .boolean, accessFlags := 2, slot := 3, constantValue := 0 }, { name := "serialVersionUID", type := .long, accessFlags := 26, slot := 0, constantValue := 0 }, { name := "COMPACT_STRINGS", type := .boolean, accessFlags := 24, slot := 1, constantValue := 0 }, { name := "serialPersistentFields", type := (.array (.object "java/io/ObjectStreamField")), accessFlags := 26, slot := 2, constantValue := 0 }, { name := "REPL", type := .char, accessFlags := 26, slot := 3, constantValue := 0 }, { name := "CASE_INSENSITIVE_ORDER", type := (.object "java/util/Comparator"), accessFlags := 25, slot := 4, constantValue := 0 }, { name := "LATIN1", type := .byte, accessFlags := 24, slot := 5, constantValue := 0 }, { name := "UTF16", type := .byte, accessFlags := 24, slot := 6, constantValue := 0 }]
  methods := #[k8m0, k8m1, k8m2, k8m3, k8m4, k8m5]
  instanceTypes := #[(.array .byte), .byte, .int, .boolean]
  staticTypes := #[.long, .boolean, (.array (.object "java/io/ObjectStreamField")), .char, (.object "java/util/Comparator"), .byte, .byte]
  resolved := Array.replicate 1451 none
  statics := some 0 }

def pool9 : Array CpInfo := pool [(4, .class_ 6), (1, u "java/lang/Object"), (0, u "<init>"), (0, u "()V"), (5, .class_ 16), (1, u "java/lang/StringLatin1"), (73, u "canEncode"), (14, u "(C)Z"), (15, u "$assertionsDisabled"), (0, u "Z"), (98, .class_ 223), (1, u "java/lang/StringLatin1$LinesSpliterator"), (57, u "equals"), (0, u "([B[B)Z"), (97, u "toBytes"), (1, u "(C)[B"), (7, .class_ 391), (0, u "java/lang/StringLatin1$CharsSpliterator")] 3

def k9m0 : Method := { name := "<init>", desc := "()V", sig := { parameters := [], returnType := none }, accessFlags := 0, code := none }
def k9c1 : Code := { maxStack := 2, maxLocals := 1, code := jdk_43_method_3_code, exceptionTable := #[], attributes := #[] }
def k9m1 : Method := { name := "canEncode", desc := "(C)Z", sig := { parameters := [.char], returnType := some .boolean }, accessFlags := 9, code := some k9c1 }
def k9c2 : Code := { maxStack := 3, maxLocals := 3, code := jdk_43_method_13_code, exceptionTable := #[], attributes := #[] }
def k9m2 : Method := { name := "equals", desc := "([B[B)Z", sig := { parameters := [(.array .byte), (.array .byte)], returnType := some .boolean }, accessFlags := 9, code := some k9c2 }
def k9c3 : Code := { maxStack := 4, maxLocals := 1, code := jdk_43_method_46_code, exceptionTable := #[], attributes := #[] }
def k9m3 : Method := { name := "toBytes", desc := "(C)[B", sig := { parameters := [.char], returnType := some (.array .byte) }, accessFlags := 9, code := some k9c3 }
/-- java/lang/StringLatin1 -/
def k9 : Class := { plain "java/lang/StringLatin1" (some 0) with
  accessFlags := 48
  interfaces := #[]
  cf := some (fileOf pool9 14 #[.nestMembers #[390, 221]] #[{ accessFlags := 0, nameIndex := 7, descriptorIndex := 8, attributes := #[] }, { accessFlags := 9, nameIndex := 90, descriptorIndex := 105, attributes := #[] }, { accessFlags := 9, nameIndex := 281, descriptorIndex := 282, attributes := #[] }, { accessFlags := 9, nameIndex := 380, descriptorIndex := 382, attributes := #[] }] 48 4 #[] #[{ accessFlags := 4120, nameIndex := 121, descriptorIndex := 122, attributes := #[] }])
  fields := #[{ name := "$assertionsDisabled", type := .boolean, accessFlags := 4120, slot := 0, constantValue := 0 }]
  methods := #[k9m0, k9m1, k9m2, k9m3]
  instanceTypes := #[]
  staticTypes := #[.boolean]
  resolved := Array.replicate 395 none
  statics := none }

def pool10 : Array CpInfo := pool [(2, .class_ 4), (1, u "java/lang/Object"), (0, u "<init>"), (0, u "()V"), (17, .class_ 26), (1, u "jdk/internal/util/Preconditions"), (28, .class_ 56), (0, u "jdk/internal/util/Preconditions$4"), (57, .class_ 115), (0, u "jdk/internal/util/Preconditions$1"), (7, u "SIOOBE_FORMATTER"), (0, u "Ljava/util/function/BiFunction;"), (0, .class_ 126), (0, u "jdk/internal/util/Preconditions$2"), (3, u "AIOOBE_FORMATTER"), (0, .class_ 132), (0, u "jdk/internal/util/Preconditions$3"), (3, u "IOOBE_FORMATTER")] 57

def k10m0 : Method := { name := "<init>", desc := "()V", sig := { parameters := [], returnType := none }, accessFlags := 1, code := none }
/-- jdk/internal/util/Preconditions -/
def k10 : Class := { plain "jdk/internal/util/Preconditions" (some 0) with
  accessFlags := 33
  interfaces := #[]
  cf := some (fileOf pool10 24 #[.nestMembers #[55, 131, 125, 114]] #[{ accessFlags := 1, nameIndex := 5, descriptorIndex := 6, attributes := #[] }] 33 2 #[] #[{ accessFlags := 25, nameIndex := 123, descriptorIndex := 124, attributes := #[] }, { accessFlags := 25, nameIndex := 130, descriptorIndex := 124, attributes := #[] }, { accessFlags := 25, nameIndex := 136, descriptorIndex := 124, attributes := #[] }])
  fields := #[{ name := "SIOOBE_FORMATTER", type := (.object "java/util/function/BiFunction"), accessFlags := 25, slot := 0, constantValue := 0 }, { name := "AIOOBE_FORMATTER", type := (.object "java/util/function/BiFunction"), accessFlags := 25, slot := 1, constantValue := 0 }, { name := "IOOBE_FORMATTER", type := (.object "java/util/function/BiFunction"), accessFlags := 25, slot := 2, constantValue := 0 }]
  methods := #[k10m0]
  instanceTypes := #[]
  staticTypes := #[(.object "java/util/function/BiFunction"), (.object "java/util/function/BiFunction"), (.object "java/util/function/BiFunction")]
  resolved := Array.replicate 194 none
  statics := some 1 }

def pool11 : Array CpInfo := pool [(9, u "<init>"), (6, .class_ 18), (1, u "java/lang/Object"), (0, u "()V"), (1, .class_ 23), (1, u "jdk/internal/util/ArraysSupport"), (0, u "LOG2_ARRAY_LONG_INDEX_SCALE"), (0, u "I"), (2, u "U"), (0, u "Ljdk/internal/misc/Unsafe;"), (8, u "BIG_ENDIAN"), (0, u "Z"), (8, u "LOG2_BYTE_BIT_SIZE"), (4, u "LOG2_ARRAY_INT_INDEX_SCALE"), (54, u "JLA"), (0, u "Ljdk/internal/access/JavaLangAccess;"), (11, u "LOG2_ARRAY_BOOLEAN_INDEX_SCALE"), (9, u "LOG2_ARRAY_BYTE_INDEX_SCALE"), (5, u "LOG2_ARRAY_CHAR_INDEX_SCALE"), (5, u "LOG2_ARRAY_SHORT_INDEX_SCALE"), (18, u "LOG2_ARRAY_FLOAT_INDEX_SCALE"), (24, u "LOG2_ARRAY_DOUBLE_INDEX_SCALE"), (89, u "T_BOOLEAN"), (2, u "T_CHAR"), (1, u "T_FLOAT"), (1, u "T_DOUBLE"), (1, u "T_BYTE"), (1, u "T_SHORT"), (1, u "T_INT"), (1, u "T_LONG"), (1, u "SOFT_MAX_ARRAY_LENGTH")] 83

def k11m0 : Method := { name := "<init>", desc := "()V", sig := { parameters := [], returnType := none }, accessFlags := 2, code := none }
/-- jdk/internal/util/ArraysSupport -/
def k11 : Class := { plain "jdk/internal/util/ArraysSupport" (some 0) with
  accessFlags := 33
  interfaces := #[]
  cf := some (fileOf pool11 21 #[] #[{ accessFlags := 2, nameIndex := 9, descriptorIndex := 19, attributes := #[] }] 33 16 #[] #[{ accessFlags := 24, nameIndex := 28, descriptorIndex := 29, attributes := #[] }, { accessFlags := 26, nameIndex := 38, descriptorIndex := 39, attributes := #[] }, { accessFlags := 25, nameIndex := 121, descriptorIndex := 25, attributes := #[] }, { accessFlags := 25, nameIndex := 131, descriptorIndex := 25, attributes := #[] }, { accessFlags := 25, nameIndex := 137, descriptorIndex := 25, attributes := #[] }, { accessFlags := 25, nameIndex := 143, descriptorIndex := 25, attributes := #[] }, { accessFlags := 25, nameIndex := 53, descriptorIndex := 25, attributes := #[] }, { accessFlags := 25, nameIndex := 24, descriptorIndex := 25, attributes := #[] }, { accessFlags := 25, nameIndex := 162, descriptorIndex := 25, attributes := #[] }, { accessFlags := 25, nameIndex := 187, descriptorIndex := 25, attributes := #[] }, { accessFlags := 26, nameIndex := 48, descriptorIndex := 25, attributes := #[] }, { accessFlags := 25, nameIndex := 277, descriptorIndex := 25, attributes := #[] }, { accessFlags := 25, nameIndex := 280, descriptorIndex := 25, attributes := #[] }, { accessFlags := 25, nameIndex := 282, descriptorIndex := 25, attributes := #[] }, { accessFlags := 25, nameIndex := 284, descriptorIndex := 25, attributes := #[] }, { accessFlags := 25, nameIndex := 286, descriptorIndex := 25, attributes := #[] }, { accessFlags := 25, nameIndex := 288, descriptorIndex := 25, attributes := #[] }, { accessFlags := 25, nameIndex := 290, descriptorIndex := 25, attributes := #[] }, { accessFlags := 25, nameIndex := 292, descriptorIndex := 25, attributes := #[] }, { accessFlags := 26, nameIndex := 108, descriptorIndex := 109, attributes := #[] }, { accessFlags := 25, nameIndex := 294, descriptorIndex := 25, attributes := #[] }])
  fields := #[{ name := "U", type := (.object "jdk/internal/misc/Unsafe"), accessFlags := 24, slot := 0, constantValue := 0 }, { name := "BIG_ENDIAN", type := .boolean, accessFlags := 26, slot := 1, constantValue := 0 }, { name := "LOG2_ARRAY_BOOLEAN_INDEX_SCALE", type := .int, accessFlags := 25, slot := 2, constantValue := 0 }, { name := "LOG2_ARRAY_BYTE_INDEX_SCALE", type := .int, accessFlags := 25, slot := 3, constantValue := 0 }, { name := "LOG2_ARRAY_CHAR_INDEX_SCALE", type := .int, accessFlags := 25, slot := 4, constantValue := 0 }, { name := "LOG2_ARRAY_SHORT_INDEX_SCALE", type := .int, accessFlags := 25, slot := 5, constantValue := 0 }, { name := "LOG2_ARRAY_INT_INDEX_SCALE", type := .int, accessFlags := 25, slot := 6, constantValue := 0 }, { name := "LOG2_ARRAY_LONG_INDEX_SCALE", type := .int, accessFlags := 25, slot := 7, constantValue := 0 }, { name := "LOG2_ARRAY_FLOAT_INDEX_SCALE", type := .int, accessFlags := 25, slot := 8, constantValue := 0 }, { name := "LOG2_ARRAY_DOUBLE_INDEX_SCALE", type := .int, accessFlags := 25, slot := 9, constantValue := 0 }, { name := "LOG2_BYTE_BIT_SIZE", type := .int, accessFlags := 26, slot := 10, constantValue := 0 }, { name := "T_BOOLEAN", type := .int, accessFlags := 25, slot := 11, constantValue := 0 }, { name := "T_CHAR", type := .int, accessFlags := 25, slot := 12, constantValue := 0 }, { name := "T_FLOAT", type := .int, accessFlags := 25, slot := 13, constantValue := 0 }, { name := "T_DOUBLE", type := .int, accessFlags := 25, slot := 14, constantValue := 0 }, { name := "T_BYTE", type := .int, accessFlags := 25, slot := 15, constantValue := 0 }, { name := "T_SHORT", type := .int, accessFlags := 25, slot := 16, constantValue := 0 }, { name := "T_INT", type := .int, accessFlags := 25, slot := 17, constantValue := 0 }, { name := "T_LONG", type := .int, accessFlags := 25, slot := 18, constantValue := 0 }, { name := "JLA", type := (.object "jdk/internal/access/JavaLangAccess"), accessFlags := 26, slot := 19, constantValue := 0 }, { name := "SOFT_MAX_ARRAY_LENGTH", type := .int, accessFlags := 25, slot := 20, constantValue := 0 }]
  methods := #[k11m0]
  instanceTypes := #[]
  staticTypes := #[(.object "jdk/internal/misc/Unsafe"), .boolean, .int, .int, .int, .int, .int, .int, .int, .int, .int, .int, .int, .int, .int, .int, .int, .int, .int, (.object "jdk/internal/access/JavaLangAccess"), .int]
  resolved := Array.replicate 378 none
  statics := none }

def pool12 : Array CpInfo := pool [(1, u "java/lang/Cloneable"), (0, .class_ 1), (0, u "java/lang/Object"), (0, .class_ 3)] 3

/-- java/lang/Cloneable -/
def k12 : Class := { plain "java/lang/Cloneable" (some 0) with
  accessFlags := 1537
  interfaces := #[]
  cf := some (fileOf pool12 2 #[] #[] 1537 4 #[] #[])
  fields := #[]
  methods := #[]
  instanceTypes := #[]
  staticTypes := #[]
  resolved := Array.replicate 8 none
  statics := none }

/-- the primitive byte -/
def k13 : Class := { plain "byte" none with kind := .primitive 'B', accessFlags := 0x411 }
/-- [B -/
def k14 : Class := { plain "[B" (some 0) with kind := .array 13 .byte, interfaces := #[12, 3], accessFlags := 1041 }

/-- the primitive char -/
def k15 : Class := { plain "char" none with kind := .primitive 'C', accessFlags := 0x411 }
/-- [C -/
def k16 : Class := { plain "[C" (some 0) with kind := .array 15 .char, interfaces := #[12, 3], accessFlags := 1041 }

/-- the primitive int -/
def k17 : Class := { plain "int" none with kind := .primitive 'I', accessFlags := 0x411 }
/-- [I -/
def k18 : Class := { plain "[I" (some 0) with kind := .array 17 .int, interfaces := #[12, 3], accessFlags := 1041 }

def heap : Heap := #[{ cls := 8, slots := #[.long 0, .int 1, .null, .int 0, .null, .int 0, .int 0], vm := .statics 8 },
  { cls := 10, slots := #[.null, .null, .null], vm := .statics 10 }]
def classes : Array Class := #[k0, k1, k2, k3, k4, k5, k6, k7, k8, k9, k10, k11, k12, k13, k14, k15, k16, k17, k18]
def interned : List (Array UInt16 × Addr) := []
def slotsUsed : Nat := 10
def theMethod : MethodId := ⟨1, 3⟩
def args0 : Array Value := #[.int 7, .int 8, .int 9, .int 4]
def aboutOver (below : List Frame) : State where
  vm := { classes := classes, interned := interned.toArray }
  heap := heap
  slotsUsed := slotsUsed
  threads := #[{ frames := .invoking theMethod args0 :: below }]
def below0 : List Frame := [.native { method := ⟨0, 0⟩, args := #[] }]
def about1 : State := aboutOver below0
def p0 : Program := .bare "" "" ""
def e0 : Env := launch0.env 0 0 0
theorem w_frames : about1.frames = Frame.invoking theMethod args0 :: below0 := rfl
set_option maxRecDepth 65536 in
theorem w_args : argsFit about1.vm theMethod args0 = true := by decide +kernel
set_option maxRecDepth 65536 in
theorem w_heap : heapFits about1 = true := by decide +kernel
set_option maxRecDepth 65536 in
theorem w_runnable : about1.curStatus? = some .runnable := by decide +kernel
set_option maxRecDepth 65536 in
theorem w_alone : about1.alone = true := by decide +kernel
set_option maxRecDepth 65536 in
theorem w_named : about1.methodNamed? x = some theMethod := by decide +kernel
set_option maxRecDepth 65536 in
theorem w_hears : about1.hears theMethod below0 = true := by decide +kernel
set_option maxRecDepth 65536 in
theorem w_ripe : about1.ripe theMethod args0 below0 = true := by decide +kernel
theorem w_running : about1.status = .running := rfl
set_option maxRecDepth 65536 in
theorem w_room : about1.hasRoom e0.platform room_1 = true :=
  launch0.hasRoom_least _ room_1 (by decide +kernel) (by decide +kernel) (by decide +kernel) (by decide +kernel) (by decide +kernel) (by decide +kernel)
theorem allAtoms_all (ts : List Jvm.Cond) (a : Array Jvm.Value) (st : Jvm.State) : (allAtoms ts).before a st = ts.all (fun c => c.before a st) := by
  induction ts with
  | nil => rfl
  | cons c t ih =>
    show (Jvm.Cond.and c (allAtoms t)).before a st = _
    rw [Jvm.Cond.before_and, ih, List.all_cons]
def words1 : List Jvm.Cond := Jvm.Cond.code x code maxLocals ret :: tables_1
/-- a 'code' word, met by the world's own term for the bytes: nothing is compared byte by byte -/
theorem code_word {y : MethodName} {bytes : ByteArray} {mx : Nat} {rt : Option FieldType} {a : Array Value} {s : State} {m : MethodId} {meth : Method} {c : Code} (h1 : s.methodNamed? y = some m) (h2 : s.vm.method? m = some meth) (h3 : meth.code = some c) (h4 : c.code = bytes)
    (h5 : (c.maxLocals == mx && c.exceptionTable.isEmpty && decide (c.maxStack ≤ mostOperands) && decide (meth.sig.returnType = rt) && !meth.locks && decide (parseMethodDescriptor y.desc = some meth.sig)) = true) : (Jvm.Cond.code y bytes mx rt).before a s = true := by
  simp only [Bool.and_eq_true, beq_iff_eq, Bool.not_eq_true', decide_eq_true_eq] at h5
  obtain ⟨⟨⟨⟨⟨g1, g2⟩, g3⟩, g4⟩, g5⟩, g6⟩ := h5
  simp [Cond.before, Cond.holds, Cond.value, h1, h2, h3, h4, g1, g2, g3, g4, g5, g6]
def isCode : Jvm.Cond → Bool
  | .code _ _ _ _ => true
  | _ => false
theorem all_split {L : List Jvm.Cond} {P : Jvm.Cond → Bool} (h1 : L.all (fun c => isCode c || P c) = true) (h2 : ∀ c ∈ L.filter isCode, P c = true) : L.all P = true := by
  refine List.all_eq_true.mpr fun c hc => ?_
  have h := List.all_eq_true.mp h1 c hc
  rcases Bool.eq_false_or_eq_true (isCode c) with hi | hi
  · exact h2 c (List.mem_filter.mpr ⟨hc, hi⟩)
  · simpa [hi] using h
set_option maxRecDepth 65536 in
theorem w_c0 : (Jvm.Cond.code x code maxLocals ret).before args0 about1 = true := code_word (m := ⟨1, 3⟩) (meth := k1m3) (c := k1c3) (by decide +kernel) rfl rfl rfl (by decide +kernel)
set_option maxRecDepth 65536 in
theorem w_c1 : (Jvm.Cond.code ({ cls := "com/example/vestline/vestline/schema/ViolationEqualsPinLaw", name := "str", desc := "(I)Ljava/lang/String;" } : Jvm.MethodName) method_2_code (1 : Nat) (Option.some (Jvm.ClassFile.FieldType.object "java/lang/String"))).before args0 about1 = true := code_word (m := ⟨1, 1⟩) (meth := k1m1) (c := k1c1) (by decide +kernel) rfl rfl rfl (by decide +kernel)
set_option maxRecDepth 65536 in
theorem w_c2 : (Jvm.Cond.code ({ cls := "java/lang/String", name := "<init>", desc := "([C)V" } : Jvm.MethodName) jdk_42_method_3_code (2 : Nat) (Option.none : Option Jvm.ClassFile.FieldType)).before args0 about1 = true := code_word (m := ⟨8, 1⟩) (meth := k8m1) (c := k8c1) (by decide +kernel) rfl rfl rfl (by decide +kernel)
set_option maxRecDepth 65536 in
theorem w_c3 : (Jvm.Cond.code ({ cls := "java/lang/String", name := "<init>", desc := "([CIILjava/lang/Void;)V" } : Jvm.MethodName) jdk_42_method_149_code (6 : Nat) (Option.none : Option Jvm.ClassFile.FieldType)).before args0 about1 = true := code_word (m := ⟨8, 4⟩) (meth := k8m4) (c := k8c4) (by decide +kernel) rfl rfl rfl (by decide +kernel)
set_option maxRecDepth 65536 in
theorem w_c4 : (Jvm.Cond.code ({ cls := "java/lang/Object", name := "<init>", desc := "()V" } : Jvm.MethodName) object_method_1_code (1 : Nat) (Option.none : Option Jvm.ClassFile.FieldType)).before args0 about1 = true := code_word (m := ⟨0, 0⟩) (meth := k0m0) (c := k0c0) (by decide +kernel) rfl rfl rfl (by decide +kernel)
set_option maxRecDepth 65536 in
theorem w_c5 : (Jvm.Cond.code ({ cls := "com/example/vestline/vestline/schema/Violation", name := "<init>", desc := "(Ljava/lang/String;Ljava/lang/String;Ljava/lang/String;)V" } : Jvm.MethodName) prog_38_method_1_code (4 : Nat) (Option.none : Option Jvm.ClassFile.FieldType)).before args0 about1 = true := code_word (m := ⟨2, 0⟩) (meth := k2m0) (c := k2c0) (by decide +kernel) rfl rfl rfl (by decide +kernel)
set_option maxRecDepth 65536 in
theorem w_c6 : (Jvm.Cond.code ({ cls := "com/example/vestline/vestline/schema/Violation", name := "equals", desc := "(Ljava/lang/Object;)Z" } : Jvm.MethodName) prog_38_method_5_code (3 : Nat) (Option.some Jvm.ClassFile.FieldType.boolean)).before args0 about1 = true := code_word (m := ⟨2, 1⟩) (meth := k2m1) (c := k2c1) (by decide +kernel) rfl rfl rfl (by decide +kernel)
set_option maxRecDepth 65536 in
theorem w_c7 : (Jvm.Cond.code ({ cls := "java/lang/String", name := "valueOf", desc := "(C)Ljava/lang/String;" } : Jvm.MethodName) jdk_42_method_139_code (1 : Nat) (Option.some (Jvm.ClassFile.FieldType.object "java/lang/String"))).before args0 about1 = true := code_word (m := ⟨8, 3⟩) (meth := k8m3) (c := k8c3) (by decide +kernel) rfl rfl rfl (by decide +kernel)
set_option maxRecDepth 65536 in
theorem w_c8 : (Jvm.Cond.code ({ cls := "java/lang/StringLatin1", name := "canEncode", desc := "(C)Z" } : Jvm.MethodName) jdk_43_method_3_code (1 : Nat) (Option.some Jvm.ClassFile.FieldType.boolean)).before args0 about1 = true := code_word (m := ⟨9, 1⟩) (meth := k9m1) (c := k9c1) (by decide +kernel) rfl rfl rfl (by decide +kernel)
set_option maxRecDepth 65536 in
theorem w_c9 : (Jvm.Cond.code ({ cls := "java/lang/StringLatin1", name := "toBytes", desc := "(C)[B" } : Jvm.MethodName) jdk_43_method_46_code (1 : Nat) (Option.some (Jvm.ClassFile.FieldType.array Jvm.ClassFile.FieldType.byte))).before args0 about1 = true := code_word (m := ⟨9, 3⟩) (meth := k9m3) (c := k9c3) (by decide +kernel) rfl rfl rfl (by decide +kernel)
set_option maxRecDepth 65536 in
theorem w_c10 : (Jvm.Cond.code ({ cls := "java/lang/String", name := "<init>", desc := "([BB)V" } : Jvm.MethodName) jdk_42_method_151_code (3 : Nat) (Option.none : Option Jvm.ClassFile.FieldType)).before args0 about1 = true := code_word (m := ⟨8, 5⟩) (meth := k8m5) (c := k8c5) (by decide +kernel) rfl rfl rfl (by decide +kernel)
set_option maxRecDepth 65536 in
theorem w_c11 : (Jvm.Cond.code ({ cls := "com/example/vestline/vestline/schema/ViolationEqualsPinLaw", name := "same", desc := "(II)Z" } : Jvm.MethodName) method_3_code (4 : Nat) (Option.some Jvm.ClassFile.FieldType.boolean)).before args0 about1 = true := code_word (m := ⟨1, 2⟩) (meth := k1m2) (c := k1c2) (by decide +kernel) rfl rfl rfl (by decide +kernel)
set_option maxRecDepth 65536 in
theorem w_c12 : (Jvm.Cond.code ({ cls := "java/lang/String", name := "equals", desc := "(Ljava/lang/Object;)Z" } : Jvm.MethodName) jdk_42_method_66_code (3 : Nat) (Option.some Jvm.ClassFile.FieldType.boolean)).before args0 about1 = true := code_word (m := ⟨8, 2⟩) (meth := k8m2) (c := k8c2) (by decide +kernel) rfl rfl rfl (by decide +kernel)
set_option maxRecDepth 65536 in
theorem w_c13 : (Jvm.Cond.code ({ cls := "java/lang/StringLatin1", name := "equals", desc := "([B[B)Z" } : Jvm.MethodName) jdk_43_method_13_code (3 : Nat) (Option.some Jvm.ClassFile.FieldType.boolean)).before args0 about1 = true := code_word (m := ⟨9, 2⟩) (meth := k9m2) (c := k9c2) (by decide +kernel) rfl rfl rfl (by decide +kernel)
def codes1 : List Jvm.Cond := [Jvm.Cond.code x code maxLocals ret, Jvm.Cond.code ({ cls := "com/example/vestline/vestline/schema/ViolationEqualsPinLaw", name := "str", desc := "(I)Ljava/lang/String;" } : Jvm.MethodName) method_2_code (1 : Nat) (Option.some (Jvm.ClassFile.FieldType.object "java/lang/String")), Jvm.Cond.code ({ cls := "java/lang/String", name := "<init>", desc := "([C)V" } : Jvm.MethodName) jdk_42_method_3_code (2 : Nat) (Option.none : Option Jvm.ClassFile.FieldType), Jvm.Cond.code ({ cls := "java/lang/String", name := "<init>", desc := "([CIILjava/lang/Void;)V" } : Jvm.MethodName) jdk_42_method_149_code (6 : Nat) (Option.none : Option Jvm.ClassFile.FieldType), Jvm.Cond.code ({ cls := "java/lang/Object", name := "<init>", desc := "()V" } : Jvm.MethodName) object_method_1_code (1 : Nat) (Option.none : Option Jvm.ClassFile.FieldType), Jvm.Cond.code ({ cls := "com/example/vestline/vestline/schema/Violation", name := "<init>", desc := "(Ljava/lang/String;Ljava/lang/String;Ljava/lang/String;)V" } : Jvm.MethodName) prog_38_method_1_code (4 : Nat) (Option.none : Option Jvm.ClassFile.FieldType), Jvm.Cond.code ({ cls := "com/example/vestline/vestline/schema/Violation", name := "equals", desc := "(Ljava/lang/Object;)Z" } : Jvm.MethodName) prog_38_method_5_code (3 : Nat) (Option.some Jvm.ClassFile.FieldType.boolean), Jvm.Cond.code ({ cls := "java/lang/String", name := "valueOf", desc := "(C)Ljava/lang/String;" } : Jvm.MethodName) jdk_42_method_139_code (1 : Nat) (Option.some (Jvm.ClassFile.FieldType.object "java/lang/String")), Jvm.Cond.code ({ cls := "java/lang/StringLatin1", name := "canEncode", desc := "(C)Z" } : Jvm.MethodName) jdk_43_method_3_code (1 : Nat) (Option.some Jvm.ClassFile.FieldType.boolean), Jvm.Cond.code ({ cls := "java/lang/StringLatin1", name := "toBytes", desc := "(C)[B" } : Jvm.MethodName) jdk_43_method_46_code (1 : Nat) (Option.some (Jvm.ClassFile.FieldType.array Jvm.ClassFile.FieldType.byte)), Jvm.Cond.code ({ cls := "java/lang/String", name := "<init>", desc := "([BB)V" } : Jvm.MethodName) jdk_42_method_151_code (3 : Nat) (Option.none : Option Jvm.ClassFile.FieldType), Jvm.Cond.code ({ cls := "com/example/vestline/vestline/schema/ViolationEqualsPinLaw", name := "same", desc := "(II)Z" } : Jvm.MethodName) method_3_code (4 : Nat) (Option.some Jvm.ClassFile.FieldType.boolean), Jvm.Cond.code ({ cls := "java/lang/String", name := "equals", desc := "(Ljava/lang/Object;)Z" } : Jvm.MethodName) jdk_42_method_66_code (3 : Nat) (Option.some Jvm.ClassFile.FieldType.boolean), Jvm.Cond.code ({ cls := "java/lang/StringLatin1", name := "equals", desc := "([B[B)Z" } : Jvm.MethodName) jdk_43_method_13_code (3 : Nat) (Option.some Jvm.ClassFile.FieldType.boolean)]
set_option maxRecDepth 65536 in
theorem codes_eq : words1.filter isCode = codes1 := rfl
theorem w_codes : ∀ c ∈ words1.filter isCode, c.before args0 about1 = true := by
  rw [codes_eq]
  intro c hc
  simp only [codes1, List.mem_cons, List.not_mem_nil, or_false] at hc
  rcases hc with rfl | rfl | rfl | rfl | rfl | rfl | rfl | rfl | rfl | rfl | rfl | rfl | rfl | rfl
  · exact w_c0
  · exact w_c1
  · exact w_c2
  · exact w_c3
  · exact w_c4
  · exact w_c5
  · exact w_c6
  · exact w_c7
  · exact w_c8
  · exact w_c9
  · exact w_c10
  · exact w_c11
  · exact w_c12
  · exact w_c13
set_option maxRecDepth 65536 in
theorem w_t1 : (words1.take 24).all (fun c => isCode c || c.before args0 about1) = true := by decide +kernel
set_option maxRecDepth 65536 in
theorem w_t2 : ((words1.drop 24).take 24).all (fun c => isCode c || c.before args0 about1) = true := by decide +kernel
set_option maxRecDepth 65536 in
theorem w_t3 : (((words1.drop 24).drop 24).take 24).all (fun c => isCode c || c.before args0 about1) = true := by decide +kernel
set_option maxRecDepth 65536 in
theorem w_t4 : (((words1.drop 24).drop 24).drop 24).all (fun c => isCode c || c.before args0 about1) = true := by decide +kernel
theorem w_tables : (allAtoms (Jvm.Cond.code x code maxLocals ret :: tables_1)).before args0 about1 = true := by
  rw [allAtoms_all]
  show words1.all (fun c => c.before args0 about1) = true
  refine all_split ?_ w_codes
  rw [← List.take_append_drop 24 words1, List.all_append, w_t1, ← List.take_append_drop 24 (words1.drop 24), List.all_append, w_t2, ← List.take_append_drop 24 ((words1.drop 24).drop 24), List.all_append, w_t3, w_t4]
  rfl
set_option maxRecDepth 65536 in
theorem w_rest : rest_1_c.before args0 about1 = true := by decide +kernel
set_option maxRecDepth 65536 in
theorem w_case : (Jvm.Cond.and given_1 narrow_1).before args0 about1 = true := by decide +kernel
set_option maxRecDepth 65536 in
theorem w_consts : constsHeld consts_1 about1 := Jvm.Lit.constsHeldB_iff.mp (by decide +kernel)
theorem w_applies : (headSpec (Jvm.Cond.code x code maxLocals ret :: tables_1) room_1).applies x e0.platform about1 = true :=
  (Spec.applies_iff w_frames).mpr ⟨w_running, w_runnable, w_alone, w_named, w_hears, w_ripe, w_room, w_tables⟩
theorem atStart : AtStart classFile x code maxLocals ret World_1 tables_1 room_1 Calls_1 rest_1 Pre_1 launch0 p0 e0 about1 theMethod args0 below0 :=
  ⟨lists_1, trivial, launch0.admits_env _ _ _, launch0.least_env, fairChoices_fair.cas, fairChoices_fair.clock, w_frames, w_args, w_heap, w_applies, ⟨w_consts, trivial⟩, w_rest, w_case⟩
end start1
theorem witness_1 : WitnessClaimed_1 := ⟨start1.p0, start1.e0, start1.about1, start1.theMethod, start1.args0, start1.below0, start1.atStart⟩
end Jvm.Pilot.@@N@@
