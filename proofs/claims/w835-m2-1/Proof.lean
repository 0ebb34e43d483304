import JvmDerived
import JvmDerived.Pilot.@@N@@Statement
import JvmDerived.Pilot.@@N@@Code
set_option linter.unusedVariables false
set_option linter.unusedSimpArgs false
namespace Jvm.Pilot.@@N@@.W
open Jvm Jvm.ClassFile Sem Op Lib Jvm.Free Jvm.Stand Jvm.LawKit Jvm.RoadKit
/-! String constants: whatever entry of cl the VM holds an object for, that object bears the entry's text; its two cells are none of xs (the places that the walk may write) -/
def Lt (Z : State) (h : Heap) (xs : List Addr) (a : Addr) (units : Array UInt16) : Prop :=
  ∃ (t : Addr) (kb : ClassId), Exa Z h a "java/lang/String" ∧ Fld Z h a "java/lang/String" "value" "[B" (.ref t) ∧ Fld Z h a "java/lang/String" "coder" "B" (.int 0) ∧ Arv Z h t kb .byte (Int32.ofNat units.size) (units.toList.map fun u => Value.int (Jvm.Lit.byteI u)) (.int 0) ∧ a ∉ xs ∧ t ∉ xs
def Lits (Z : State) (cl : List (String × Nat)) (xs : List Addr) (vm : Vm) (h : Heap) : Prop :=
  (∀ x ∈ xs, x < h.size) ∧ ∀ q ∈ cl, ∀ (c : ClassId) (k : Class) (cf : ClassFile) (i : Nat) (units : Array UInt16) (a : Addr), vm.findClass q.1 = some c → vm.classes[c]? = some k → k.cf = some cf → cf.constantPool[q.2]? = some (.string i) → cf.constantPool[i]? = some (.utf8 units) →
    (k.resolved[q.2]? = some (some (.string a)) ∨ (k.resolved[q.2]? = some none ∧ vm.interned.find? (fun p => p.1 == units) = some (units, a))) → Lt Z h xs a units
section LitFacts
variable {Z : State} {cl : List (String × Nat)} {xs : List Addr} {vm : Vm} {h h' : Heap} {a : Addr} {units : Array UInt16}
theorem Lt.ext (F : Lt Z h xs a units) (E : Ext h h') : Lt Z h' xs a units := by
  obtain ⟨t, kb, f1, f2, f3, f4, f5, f6⟩ := F
  exact ⟨t, kb, f1.ext E, f2.ext E, f3.ext E, f4.ext E, f5, f6⟩
theorem Lt.keep {ws : List Addr} (F : Lt Z h xs a units) (K : Keep h h' ws) (hw : ∀ x ∈ ws, x ∈ xs) : Lt Z h' xs a units := by
  obtain ⟨t, kb, f1, f2, f3, f4, f5, f6⟩ := F
  exact ⟨t, kb, f1.keep K, f2.keep K (fun q => f5 (hw _ q)), f3.keep K (fun q => f5 (hw _ q)), f4.keep K (fun q => f6 (hw _ q)), f5, f6⟩
theorem Lt.cons {b : Addr} (F : Lt Z h xs a units) (hb : h.size ≤ b) : Lt Z h (b :: xs) a units := by
  obtain ⟨t, kb, f1, f2, f3, f4, f5, f6⟩ := F
  exact ⟨t, kb, f1, f2, f3, f4, ninS (Nat.ne_of_lt (Nat.lt_of_lt_of_le f1.lt hb)) f5, ninS (Nat.ne_of_lt (Nat.lt_of_lt_of_le f4.lt hb)) f6⟩
theorem Lt.sub {ys : List Addr} (F : Lt Z h xs a units) (hs : ∀ x ∈ ys, x ∈ xs) : Lt Z h ys a units := by
  obtain ⟨t, kb, f1, f2, f3, f4, f5, f6⟩ := F
  exact ⟨t, kb, f1, f2, f3, f4, fun q => f5 (hs _ q), fun q => f6 (hs _ q)⟩
theorem Lits.ext (F : Lits Z cl xs vm h) (E : Ext h h') : Lits Z cl xs vm h' := ⟨fun x hx => Nat.lt_of_lt_of_le (F.1 x hx) E.1, fun q hq c k cf i u a h1 h2 h3 h4 h5 h6 => (F.2 q hq c k cf i u a h1 h2 h3 h4 h5 h6).ext E⟩
theorem Lits.keep {ws : List Addr} (F : Lits Z cl xs vm h) (K : Keep h h' ws) (hw : ∀ x ∈ ws, x ∈ xs) : Lits Z cl xs vm h' := ⟨fun x hx => Nat.lt_of_lt_of_le (F.1 x hx) K.1, fun q hq c k cf i u a h1 h2 h3 h4 h5 h6 => (F.2 q hq c k cf i u a h1 h2 h3 h4 h5 h6).keep K hw⟩
theorem Lits.wr {b : Addr} {sl : Nat} {v : Value} (F : Lits Z cl xs vm h) (W : Wr h h' b sl v) (hb : b ∈ xs) : Lits Z cl xs vm h' := F.keep (Keep.of_wr W) (allS hb all0)
theorem Lits.cons {b : Addr} (F : Lits Z cl xs vm h) (hb : h.size ≤ b) (E : Ext h h') (hb' : b < h'.size) : Lits Z cl (b :: xs) vm h' := ⟨allS hb' fun x hx => Nat.lt_of_lt_of_le (F.1 x hx) E.1, fun q hq c k cf i u a h1 h2 h3 h4 h5 h6 => ((F.2 q hq c k cf i u a h1 h2 h3 h4 h5 h6).cons hb).ext E⟩
theorem Lits.sub {ys : List Addr} (F : Lits Z cl xs vm h) (hs : ∀ x ∈ ys, x ∈ xs) : Lits Z cl ys vm h := ⟨fun x hx => F.1 x (hs x hx), fun q hq c k cf i u a h1 h2 h3 h4 h5 h6 => (F.2 q hq c k cf i u a h1 h2 h3 h4 h5 h6).sub hs⟩
/-- the tables are warmer, the intern table at most one pair longer, whose object bears that pair's text -/
theorem Lits.step {s : State} {vm0 vm1 : Vm} (F : Lits Z cl xs vm0 h) (hsv : s.vm = vm0) (hW : s.Warmed39 vm1) (hi : vm1.interned = vm0.interned ∨ ∃ (units : Array UInt16) (a : Addr), vm1.interned = vm0.interned.push (units, a) ∧ Lt Z h xs a units) : Lits Z cl xs vm1 h := by
  subst hsv
  refine ⟨F.1, ?_⟩
  intro q hq c k1 cf i us b h1 h2 h3 h4 h5 h6
  have hf0 : s.vm.findClass q.1 = some c := by rw [← hW.alike.findClass]; exact h1
  obtain ⟨k0, hk0, -⟩ := Vm.findClass_spec hf0
  obtain ⟨k1', e1, e2, e3, e4, -⟩ := hW.2.2.2 c k0 hk0
  cases h2.symm.trans e1
  have hcf0 : k0.cf = some cf := by rw [e2] at h3; exact h3
  -- what the longer intern table finds
  have fnd : vm1.interned.find? (fun p => p.1 == us) = some (us, b) → s.vm.interned.find? (fun p => p.1 == us) = some (us, b) ∨ (s.vm.interned.find? (fun p => p.1 == us) = none ∧ Lt Z h xs b us) := fun hf => by
    rcases hi with hi | ⟨u0, a0, hi, hl⟩
    · exact Or.inl (by rw [← hi]; exact hf)
    · rw [hi, Array.find?_push] at hf
      cases hs : s.vm.interned.find? (fun p => p.1 == us) with
      | some z => rw [hs] at hf; exact Or.inl (by simpa using hf)
      | none =>
        rw [hs] at hf
        simp only [Option.none_or] at hf
        split at hf
        · cases hf; exact Or.inr ⟨rfl, hl⟩
        · cases hf
  have fin0 : k0.resolved[q.2]? = some none → vm1.interned.find? (fun p => p.1 == us) = some (us, b) → Lt Z h xs b us := fun ho hf => by
    rcases fnd hf with g | g
    · exact F.2 q hq c k0 cf i us b hf0 hk0 hcf0 h4 h5 (Or.inr ⟨ho, g⟩)
    · exact g.2
  rcases e4 q.2 with e0 | ⟨ho, r, e5, hr | ⟨a', text, si, us', rfl, -, q3, q4, q5⟩⟩
  · rcases h6 with h6 | ⟨h6, h7⟩
    · exact F.2 q hq c k0 cf i us b hf0 hk0 hcf0 h4 h5 (Or.inl (e0.symm.trans h6))
    · exact fin0 (e0.symm.trans h6) h7
  · exfalso
    rcases h6 with h6 | ⟨h6, -⟩
    · cases e5.symm.trans h6
      simp [State.rightAt, hk0, hcf0] at hr
    · cases e5.symm.trans h6
  · rcases h6 with h6 | ⟨h6, -⟩
    · cases e5.symm.trans h6
      rw [hcf0] at q3 q4
      have e7 : si = i := by
        have z := q3.symm.trans h4
        simpa using z
      subst e7
      have e8 : us' = us := by simpa [ConstantPool.utf8?, h5] using q4.symm
      subst e8
      exact fin0 ho q5
    · cases e5.symm.trans h6
/-- what the library says of a constant's object, in the facts' words -/
theorem lt_core {U : State} {q : SB.SQ} {cS : ClassId} (hal : Z.vm.Alike U.vm) (hlat : units.all (· < 256) = true) (hsl : SBG.Sl q cS U) (hkS : ∃ kS : Class, U.vm.classes[cS]? = some kS ∧ kS.kind = .ordinary ∧ q.sC.slots.size = kS.instanceTypes.size) (hB : U.vm.findClass "[B" = some q.SA.cls) (hbyt : q.SA.slots = stringBytes units) (ha : q.sa ∉ xs) (ht : q.sd ∉ xs) : Lt Z U.heap xs q.sa units := by
  obtain ⟨⟨s1, s2, s3, ⟨cv, kv, iv, s4, s4'⟩, ⟨cc, kc, ic, s5, s5'⟩, s6, s7, s8, s9, s10, s11, s12, s13, s14, s15, s16⟩, hfS, hcS⟩ := hsl
  obtain ⟨kS, k1, k2, k3⟩ := hkS
  obtain ⟨kv', z4⟩ := ff_back hal s4
  obtain ⟨kc', z5⟩ := ff_back hal s5
  have hfZ : Z.vm.findClass "java/lang/String" = some q.sC.cls := by rw [← hal.findClass, hcS]; exact hfS
  obtain ⟨kz, hkz, -⟩ := Vm.findClass_spec hfZ
  obtain ⟨kz', hkz', ekz⟩ := hal.2.2 _ _ hkz
  have ekS : kz' = kS := Option.some.inj (hkz'.symm.trans (hcS ▸ k1))
  have hBZ : Z.vm.findClass "[B" = some q.SA.cls := by rw [← hal.findClass]; exact hB
  obtain ⟨kb, hkb, -⟩ := Vm.findClass_spec hBZ
  obtain ⟨kb', hkb', ekb⟩ := hal.2.2 _ _ hkb
  obtain ⟨hst, k9, hk9, comp, hkind9⟩ := s11
  have ek9 : k9 = kb' := Option.some.inj (hk9.symm.trans hkb')
  have hAZ : Z.isArrayOf q.SA .byte := ⟨hst, kb, hkb, comp, by rw [ek9, ekb] at hkind9; exact hkind9⟩
  have hsl : q.SA.slots = units.map fun u => Value.int (Jvm.Lit.byteI u) := by rw [hbyt, SBG.stringBytes_lat hlat]; rfl
  have hsz : q.SA.slots.size = units.size := by rw [hsl, Array.size_map]
  have hb31 : units.size < 2 ^ 31 := by rw [← hsz, s13]; exact s14
  have hnn : ¬ Int32.ofNat units.size < 0 := by
    rw [Int32.lt_iff_toInt_lt, Int32.toInt_ofNat_small hb31]; have : (0 : Int32).toInt = 0 := rfl; omega
  have hnc : (Int32.ofNat units.size).toNatClampNeg = units.size := by
    show (Int32.ofNat units.size).toInt.toNat = _
    rw [Int32.toInt_ofNat_small hb31]; simp
  have H : Has q.SA (units.toList.map fun u => Value.int (Jvm.Lit.byteI u)) (.int 0) := fun j hj => by
    have hj' : j < units.size := by omega
    rw [hsl]; simp [hj']
  refine ⟨q.sd, q.SA.cls, ⟨q.sC, kz, s1, hfZ, hkz, s3, fun ho => by rw [k3, ← ekS, ekz]⟩, ⟨q.sC, cv, kv', iv, q.fSV, s1, z4, s6, s2, s3, by rw [← hal.assignable]; exact s4', s8⟩, ⟨q.sC, cc, kc', ic, q.fSC, s1, z5, s7, s2, s3, by rw [← hal.assignable]; exact s5', s9⟩, ⟨q.SA, ⟨s10, hAZ, s12⟩, rfl, by rw [hsz, hnc], hnn, H, fun j hj => ?_⟩, ha, ht⟩
  have e1 := s16 j hj
  have e2 := H j hj
  rw [SBG.getD_of e2] at e1
  exact e1
theorem lt_of_sl {U : State} (hal : Z.vm.Alike U.vm) (hlat : units.all (· < 256) = true) (F : SlOf U a units) : Lt Z U.heap [] a units := by
  obtain ⟨q, cS, rfl, hsl, hkS, hB, hbyt⟩ := F
  exact lt_core hal hlat hsl hkS hB hbyt nin0 nin0
/-- at the case's start -/
theorem Lits.start {a0 : Array Value} (hh : ∀ q ∈ cl, Jvm.Lit.constHeld Z q.1 q.2) (hl : ∀ q ∈ cl, ∃ text : String, (Cond.stringLink q.1 q.2 text).before a0 Z = true ∧ ∀ c ∈ text.toList, c.toNat < 256) (hcw : Jvm.Lit.compactW.before a0 Z = true) (wa : (Cond.arrayClass .byte).before a0 Z = true) (wi : (Cond.instantiable "java/lang/String" 4).before a0 Z = true) : Lits Z cl [] Z.vm Z.heap := by
  refine ⟨all0, ?_⟩
  intro q hq c k cf i us b h1 h2 h3 h4 h5 h6
  obtain ⟨text, w, ht⟩ := hl q hq
  obtain ⟨k', cf', i', us', hk', hcf', hp', hu', -, htext, -⟩ := Cond.stringLink_spec h1 w
  cases h2.symm.trans hk'
  cases h3.symm.trans hcf'
  cases h4.symm.trans hp'
  cases h5.symm.trans hu'
  exact lt_of_sl (Vm.Alike.refl _) (Jvm.ClassFile.lat_of_text htext ht) (heldStart (hh q hq) w ht hcw wa wi c k cf i us b h1 h2 h3 h4 h5 h6)
end LitFacts
/-- of that class (nothing on its number of slots) -/
def Isa (Z : State) (h : Heap) (a : Addr) (C : String) : Prop := ∃ (cell : Cell) (k : Class), h[a]? = some cell ∧ Z.vm.findClass C = some cell.cls ∧ Z.vm.classes[cell.cls]? = some k ∧ cell.vm.isStatics = false
theorem Isa.ext {Z : State} {h h' : Heap} {a : Addr} {C : String} (F : Isa Z h a C) (E : Ext h h') : Isa Z h' a C := by obtain ⟨c, k, h1, r⟩ := F; exact ⟨c, k, E.2 _ _ h1, r⟩
theorem isa_of {Z : State} {h : Heap} {a : Addr} {C : String} (F : Exa Z h a C) : Isa Z h a C := by obtain ⟨c, k, h1, h2, h3, h4, -⟩ := F; exact ⟨c, k, h1, h2, h3, h4⟩
theorem isOf1 {Z s T : State} {h : Heap} {a : Addr} {C : String} (hZ : Z.Warmed39 s.vm) (eT : T.heap = h) (E : Isa Z h a C) : ∃ cB kB, s.vm.findClass C = some cB ∧ s.vm.classes[cB]? = some kB ∧ IsOf cB T a := by
  obtain ⟨cell, k, h1, h2, h3, h4⟩ := E
  obtain ⟨k', q, -⟩ := hZ.alike.2.2 _ _ h3
  exact ⟨cell.cls, k', by rw [hZ.alike.findClass]; exact h2, q, cell, by rw [eT]; exact h1, rfl, h4⟩
theorem Isa.ins {Z : State} {h : Heap} {a : Addr} {C : String} (F : Isa Z h a C) : Ins Z h a C true := by
  obtain ⟨cell, k, h1, h2, h3, h4⟩ := F
  exact ⟨cell, _, h1, h2, by simp [h4, Vm.assignable_self]⟩
/-- what stays fixed in a body's walk, the tables left out -/
def Cx0 (bytes : ByteArray) (maxL : Nat) (ret : Option FieldType) (mn : String) (p : Program) (meth : Method) (c : Code) : Prop :=
  p.tables.exec = Jvm.exec ∧ c.code = bytes ∧ c.maxLocals = maxL ∧ meth.sig.returnType = ret ∧ meth.locks = false ∧ meth.name = mn
/-- and with the tables at hand -/
def Cx (Z : State) (own : String) (bytes : ByteArray) (maxL : Nat) (ret : Option FieldType) (mn : String) (p : Program) (s : State) (m : MethodId) (meth : Method) (c : Code) : Prop :=
  p.tables.exec = Jvm.exec ∧ Z.Warmed39 s.vm ∧ s.vm.findClass own = some m.cls ∧ c.code = bytes ∧ c.maxLocals = maxL ∧ meth.sig.returnType = ret ∧ meth.locks = false ∧ meth.name = mn
/-- from the frame f at the heap h on, the body runs to its end and leaves Q; String constants may come to be loaded -/
def Go (p : Program) (l : Launch) (e : Env) (R : Room) (s : State) (m : MethodId) (args : Array Value) (below : List Frame) (meth : Method) (c : Code) (Z : State) (own : String) (cl : List (String × Nat)) (xs0 : List Addr) (n0 kc ks : Nat) (Q : Option Value → Heap → Prop) (xs : List Addr) (h : Heap) (cells slots : Nat) (f : JFrame) : Prop :=
  ∀ (T : State) (locs : List Loc) (vm0 : Vm) (k0 : Nat), Stand p l e R (s.setVm vm0) m args below meth c T locs cells slots → s.Since vm0 k0 → k0 ≤ h.size → Z.Warmed39 vm0 → vm0.findClass own = some m.cls → T.heap = h → Fr n0 locs → Lits Z cl xs vm0 h →
    ∃ s₂ o, Steps p.tables e below (T.setTop f) s₂ ∧ s₂.status = .running ∧ Ended s₂ below o ∧ ∃ v L, o = .returned v ∧ (Q v s₂.heap ∧ Lits Z cl xs0 s₂.vm s₂.heap ∧ Fr n0 L) ∧ ReturnedEndW s o s₂ L kc ks
/-- a body's contract: called with as' at the heap h it returns, and Q holds -/
def Ctr (l : Launch) (Z : State) (cl : List (String × Nat)) (xs : List Addr) (n0 : Nat) (y : MethodName) (bytes : ByteArray) (maxL : Nat) (ret : Option FieldType) (ws : List Cond) (rm : Room) (as' : Array Value) (h : Heap) (Q : Option Value → Heap → Prop) : Prop :=
  MetFree l y (head1 (Cond.code y bytes maxL ret :: ws) rm) (fun a U => a = as' ∧ Z.Warmed39 U.vm ∧ U.heap = h ∧ Lits Z cl xs U.vm h) (fun _ _ _ _ _ => True) (fun _ U o U' => ∃ v L, o = .returned v ∧ (Q v U'.heap ∧ Lits Z cl xs U'.vm U'.heap ∧ Fr n0 L) ∧ ReturnedEndW U o U' L rm.cells rm.slots)
theorem Ctr.body {l : Launch} {Z : State} {cl : List (String × Nat)} {xs : List Addr} {n0 : Nat} {y : MethodName} {bytes : ByteArray} {maxL : Nat} {ret : Option FieldType} {ws : List Cond} {rm : Room} {as' : Array Value} {h : Heap} {Q : Option Value → Heap → Prop}
    (hp : plainFor y = true)
    (body : ∀ p e s m below meth c, Cx0 bytes maxL ret y.name p meth c → Go p l e rm s m as' below meth c Z y.cls cl xs n0 rm.cells rm.slots Q xs h 0 0 (entryFrame m as' maxL)) : Ctr l Z cl xs n0 y bytes maxL ret ws rm as' h Q := by
  refine MetFree.of_bodySF hp hisR ?_
  intro p e s m args below meth c s₁ Bd hml0 hP hK
  obtain ⟨rfl, hZ, hh, hL⟩ := hP
  exact body p e s m below meth c ⟨Bd.exec, Bd.bytes, hml0, Bd.returns, Bd.notSynchronized, (name_of_methodNamed Bd.named Bd.method).1⟩ s₁ [] s.vm 0 (Stand.of_body Bd) ((State.WarmedH.refl s).since 0) (Nat.zero_le _) hZ (findClass_of_methodNamed Bd.named) (by rw [← hh, Bd.state]; rfl) (Fr.nil n0) hL
theorem Ctr.mono {l : Launch} {Z : State} {cl : List (String × Nat)} {xs : List Addr} {n0 : Nat} {y : MethodName} {bytes : ByteArray} {maxL : Nat} {ret : Option FieldType} {ws : List Cond} {rm : Room} {as' : Array Value} {h : Heap} {Q Q' : Option Value → Heap → Prop}
    (C : Ctr l Z cl xs n0 y bytes maxL ret ws rm as' h Q) (hq : ∀ v h', Q v h' → Q' v h') : Ctr l Z cl xs n0 y bytes maxL ret ws rm as' h Q' := by
  intro p e ha hc hk s m args below hf happ hP hK
  obtain ⟨n, o, h1, h2, h3, v, L, h4, ⟨h5, h6⟩, h7⟩ := C p e ha hc hk s m args below hf happ hP hK
  exact ⟨n, o, h1, h2, h3, v, L, h4, ⟨hq _ _ h5, h6⟩, h7⟩
def cdP (cd : ClassFile.Cond) (x y : Int32) : Prop := match cd with
  | .eq => x = y
  | .ne => ¬ x = y
  | .lt => x < y
  | .ge => ¬ x < y
  | .gt => y < x
  | .le => ¬ y < x
def cdN (cd : ClassFile.Cond) (x y : Int32) : Prop := match cd with
  | .eq => ¬ x = y
  | .ne => x = y
  | .lt => ¬ x < y
  | .ge => x < y
  | .gt => ¬ y < x
  | .le => y < x
theorem cd_yes {cd : ClassFile.Cond} {x y : Int32} (h : cdP cd x y) : if_icmp.holds cd x y = true := by
  cases cd
  · exact (teq h).1
  · exact (feq h).2
  · exact (tlt h).1
  · exact (flt h).2.1
  · exact (tlt h).2.2.1
  · exact (flt h).2.2.2
theorem cd_no {cd : ClassFile.Cond} {x y : Int32} (h : cdN cd x y) : if_icmp.holds cd x y = false := by
  cases cd
  · exact (feq h).1
  · exact (teq h).2
  · exact (flt h).1
  · exact (tlt h).2.1
  · exact (flt h).2.2.1
  · exact (tlt h).2.2.2
theorem cd_em (cd : ClassFile.Cond) (x y : Int32) : cdP cd x y ∨ cdN cd x y := by
  cases cd
  · exact Decidable.em (x = y)
  · exact (Decidable.em (x = y)).symm
  · exact Decidable.em (x < y)
  · exact (Decidable.em (x < y)).symm
  · exact Decidable.em (y < x)
  · exact (Decidable.em (y < x)).symm
section Rules
variable {p : Program} {l : Launch} {e : Env} {R : Room} {s : State} {m : MethodId} {args : Array Value} {below : List Frame} {meth : Method} {c : Code} {Z : State} {a0 : Array Value} {own mn : String} {cl : List (String × Nat)} {xs0 xs : List Addr} {bytes : ByteArray} {maxL : Nat} {ret : Option FieldType} {n0 kc ks : Nat} {Q : Option Value → Heap → Prop} {h : Heap} {cells slots : Nat} {pc q : Nat} {L : Array Slot} {S : List Value}
theorem Cx0.at {s' : State} (K : Cx0 bytes maxL ret mn p meth c) (hZ : Z.Warmed39 s'.vm) (ho : s'.vm.findClass own = some m.cls) : Cx Z own bytes maxL ret mn p s' m meth c := ⟨K.1, hZ, ho, K.2⟩
theorem Go.of_step {f f' : JFrame} (K : Cx0 bytes maxL ret mn p meth c) (st : ∀ s', Cx Z own bytes maxL ret mn p s' m meth c → ∀ T locs, Stand p l e R s' m args below meth c T locs cells slots → T.heap = h → ∀ t, Steps p.tables e below (T.setTop f') t → Steps p.tables e below (T.setTop f) t) (k : Go p l e R s m args below meth c Z own cl xs0 n0 kc ks Q xs h cells slots f') : Go p l e R s m args below meth c Z own cl xs0 n0 kc ks Q xs h cells slots f := fun T locs vm0 k0 X hS hk hZ ho eT N H => by
  obtain ⟨s₂, o, a1, a2⟩ := k T locs vm0 k0 X hS hk hZ ho eT N H
  exact ⟨s₂, o, st (s.setVm vm0) (K.at hZ ho) T locs X eT _ a1, a2⟩
/-- a step that warms the tables, the heap as it was -/
theorem Go.of_warm {f f' : JFrame} (K : Cx0 bytes maxL ret mn p meth c) (st : ∀ s', Cx Z own bytes maxL ret mn p s' m meth c → ∀ T locs, Stand p l e R s' m args below meth c T locs cells slots → T.heap = h → ∃ T', Stand p l e R s' m args below meth c T' locs cells slots ∧ T'.heap = h ∧ ∀ t, Steps p.tables e below (T'.setTop f') t → Steps p.tables e below (T.setTop f) t) (k : Go p l e R s m args below meth c Z own cl xs0 n0 kc ks Q xs h cells slots f') : Go p l e R s m args below meth c Z own cl xs0 n0 kc ks Q xs h cells slots f := fun T locs vm0 k0 X hS hk hZ ho eT N H => by
  obtain ⟨T', X', eT', st'⟩ := st (s.setVm vm0) (K.at hZ ho) T locs X eT
  obtain ⟨s₂, o, a1, a2⟩ := k T' locs vm0 k0 X' hS hk hZ ho eT' N H
  exact ⟨s₂, o, st' _ a1, a2⟩
/-- a step that makes or writes -/
theorem Go.of_heap {f : JFrame} {cells' slots' : Nat} (K : Cx0 bytes maxL ret mn p meth c) (st : ∀ s', Cx Z own bytes maxL ret mn p s' m meth c → ∀ T locs, Stand p l e R s' m args below meth c T locs cells slots → T.heap = h → Fr n0 locs → ∃ (T' : State) (h' : Heap) (locs' : List Loc) (f' : JFrame) (xs' : List Addr), Stand p l e R s' m args below meth c T' locs' cells' slots' ∧ T'.heap = h' ∧ h.size ≤ h'.size ∧ Fr n0 locs' ∧ (∀ vm, Lits Z cl xs vm h → Lits Z cl xs' vm h') ∧ (∀ t, Steps p.tables e below (T'.setTop f') t → Steps p.tables e below (T.setTop f) t) ∧ Go p l e R s m args below meth c Z own cl xs0 n0 kc ks Q xs' h' cells' slots' f') : Go p l e R s m args below meth c Z own cl xs0 n0 kc ks Q xs h cells slots f := fun T locs vm0 k0 X hS hk hZ ho eT N H => by
  obtain ⟨T', h', locs', f', xs', X', eT', hsz, N', H', st', k⟩ := st (s.setVm vm0) (K.at hZ ho) T locs X eT N
  obtain ⟨s₂, o, a1, a2⟩ := k T' locs' vm0 k0 X' hS (Nat.le_trans hk hsz) hZ ho eT' N' (H' _ H)
  exact ⟨s₂, o, st' _ a1, a2⟩
theorem Go.entry {f f' : JFrame} (q : f = f') (k : Go p l e R s m args below meth c Z own cl xs0 n0 kc ks Q xs h cells slots f') : Go p l e R s m args below meth c Z own cl xs0 n0 kc ks Q xs h cells slots f := q ▸ k
theorem Go.weaken {f : JFrame} {Q' : Option Value → Heap → Prop} (k : Go p l e R s m args below meth c Z own cl xs0 n0 kc ks Q' xs h cells slots f) (hq : ∀ v h', Q' v h' → Q v h') : Go p l e R s m args below meth c Z own cl xs0 n0 kc ks Q xs h cells slots f := fun T locs vm0 k0 X hS hk hZ ho eT N H => by
  obtain ⟨s₂, o, a1, a2, a3, v, L, a4, ⟨a5, a6⟩, a7⟩ := k T locs vm0 k0 X hS hk hZ ho eT N H
  exact ⟨s₂, o, a1, a2, a3, v, L, a4, ⟨hq _ _ a5, a6⟩, a7⟩
/-- more cells and slots may be booked -/
theorem Go.more {f : JFrame} {cells' slots' : Nat} (hc : cells ≤ cells') (hs : slots ≤ slots') (k : Go p l e R s m args below meth c Z own cl xs0 n0 kc ks Q xs h cells' slots' f) : Go p l e R s m args below meth c Z own cl xs0 n0 kc ks Q xs h cells slots f := fun T locs vm0 k0 X hS hk hZ ho eT N H => k T locs vm0 k0 (X.more hc hs) hS hk hZ ho eT N H
/-- fewer places are kept apart -/
theorem Go.less {f : JFrame} {ys : List Addr} (hs : ∀ x ∈ ys, x ∈ xs) (k : Go p l e R s m args below meth c Z own cl xs0 n0 kc ks Q ys h cells slots f) : Go p l e R s m args below meth c Z own cl xs0 n0 kc ks Q xs h cells slots f := fun T locs vm0 k0 X hS hk hZ ho eT N H => k T locs vm0 k0 X hS hk hZ ho eT N (H.sub hs)
theorem Go.aloadN (K : Cx0 bytes maxL ret mn p meth c) (hq : pc + 1 = q) {k : Fin 4} {v : Value} (hd : decode bytes pc = .ok (.aload_n k, 1)) (hl : L[k.val]? = some (.val v)) (hv : v.isRef = true) (r : Go p l e R s m args below meth c Z own cl xs0 n0 kc ks Q xs h cells slots (mkF m q L (v :: S))) : Go p l e R s m args below meth c Z own cl xs0 n0 kc ks Q xs h cells slots (mkF m pc L S) := Go.of_step K (fun s' K T locs X _ t k => by subst hq; exact XS.aloadN (g := mkF m pc L S) X.here K.1 rfl (hb K.2.2.2.1 hd) hl hv k) r
theorem Go.aload (K : Cx0 bytes maxL ret mn p meth c) (hq : pc + 2 = q) {k : Nat} {v : Value} (hd : decode bytes pc = .ok (.aload k, 2)) (hl : L[k]? = some (.val v)) (hv : v.isRef = true) (r : Go p l e R s m args below meth c Z own cl xs0 n0 kc ks Q xs h cells slots (mkF m q L (v :: S))) : Go p l e R s m args below meth c Z own cl xs0 n0 kc ks Q xs h cells slots (mkF m pc L S) := Go.of_step K (fun s' K T locs X _ t k => by subst hq; exact XS.aload (g := mkF m pc L S) X.here K.1 rfl (hb K.2.2.2.1 hd) hl hv k) r
theorem Go.iloadN (K : Cx0 bytes maxL ret mn p meth c) (hq : pc + 1 = q) {k : Fin 4} {v : Int32} (hd : decode bytes pc = .ok (.iload_n k, 1)) (hl : L[k.val]? = some (.val (.int v))) (r : Go p l e R s m args below meth c Z own cl xs0 n0 kc ks Q xs h cells slots (mkF m q L (.int v :: S))) : Go p l e R s m args below meth c Z own cl xs0 n0 kc ks Q xs h cells slots (mkF m pc L S) := Go.of_step K (fun s' K T locs X _ t k => by subst hq; exact XS.iloadN (g := mkF m pc L S) X.here K.1 rfl (hb K.2.2.2.1 hd) hl k) r
theorem Go.iload (K : Cx0 bytes maxL ret mn p meth c) (hq : pc + 2 = q) {k : Nat} {v : Int32} (hd : decode bytes pc = .ok (.iload k, 2)) (hl : L[k]? = some (.val (.int v))) (r : Go p l e R s m args below meth c Z own cl xs0 n0 kc ks Q xs h cells slots (mkF m q L (.int v :: S))) : Go p l e R s m args below meth c Z own cl xs0 n0 kc ks Q xs h cells slots (mkF m pc L S) := Go.of_step K (fun s' K T locs X _ t k => by subst hq; exact XS.iload (g := mkF m pc L S) X.here K.1 rfl (hb K.2.2.2.1 hd) hl k) r
theorem Go.lloadN (K : Cx0 bytes maxL ret mn p meth c) (hq : pc + 1 = q) {k : Fin 4} {v : Int64} (hd : decode bytes pc = .ok (.lload_n k, 1)) (hl : L[k.val]? = some (.val (.long v))) (r : Go p l e R s m args below meth c Z own cl xs0 n0 kc ks Q xs h cells slots (mkF m q L (.long v :: S))) : Go p l e R s m args below meth c Z own cl xs0 n0 kc ks Q xs h cells slots (mkF m pc L S) := Go.of_step K (fun s' K T locs X _ t k => by subst hq; exact XS.lloadN (g := mkF m pc L S) X.here K.1 rfl (hb K.2.2.2.1 hd) hl k) r
theorem Go.lload (K : Cx0 bytes maxL ret mn p meth c) (hq : pc + 2 = q) {k : Nat} {v : Int64} (hd : decode bytes pc = .ok (.lload k, 2)) (hl : L[k]? = some (.val (.long v))) (r : Go p l e R s m args below meth c Z own cl xs0 n0 kc ks Q xs h cells slots (mkF m q L (.long v :: S))) : Go p l e R s m args below meth c Z own cl xs0 n0 kc ks Q xs h cells slots (mkF m pc L S) := Go.of_step K (fun s' K T locs X _ t k => by subst hq; exact XS.lload (g := mkF m pc L S) X.here K.1 rfl (hb K.2.2.2.1 hd) hl k) r
theorem Go.iconst (K : Cx0 bytes maxL ret mn p meth c) (hq : pc + 1 = q) {i : Int} {v : Int32} (hv : Int32.ofInt i = v) (hd : decode bytes pc = .ok (.iconst i, 1)) (r : Go p l e R s m args below meth c Z own cl xs0 n0 kc ks Q xs h cells slots (mkF m q L (.int v :: S))) : Go p l e R s m args below meth c Z own cl xs0 n0 kc ks Q xs h cells slots (mkF m pc L S) := Go.of_step K (fun s' K T locs X _ t k => by subst hq hv; exact XS.iconst (g := mkF m pc L S) X.here K.1 rfl (hb K.2.2.2.1 hd) k) r
theorem Go.bipush (K : Cx0 bytes maxL ret mn p meth c) (hq : pc + 2 = q) {i : Int} {v : Int32} (hv : (Int8.ofInt i).toInt32 = v) (hd : decode bytes pc = .ok (.bipush i, 2)) (r : Go p l e R s m args below meth c Z own cl xs0 n0 kc ks Q xs h cells slots (mkF m q L (.int v :: S))) : Go p l e R s m args below meth c Z own cl xs0 n0 kc ks Q xs h cells slots (mkF m pc L S) := Go.of_step K (fun s' K T locs X _ t k => by subst hq hv; exact XS.bipush (g := mkF m pc L S) X.here K.1 rfl (hb K.2.2.2.1 hd) k) r
theorem Go.sipush (K : Cx0 bytes maxL ret mn p meth c) (hq : pc + 3 = q) {i : Int} {v : Int32} (hv : (Int16.ofInt i).toInt32 = v) (hd : decode bytes pc = .ok (.sipush i, 3)) (r : Go p l e R s m args below meth c Z own cl xs0 n0 kc ks Q xs h cells slots (mkF m q L (.int v :: S))) : Go p l e R s m args below meth c Z own cl xs0 n0 kc ks Q xs h cells slots (mkF m pc L S) := Go.of_step K (fun s' K T locs X _ t k => by subst hq hv; exact XS.sipush (g := mkF m pc L S) X.here K.1 rfl (hb K.2.2.2.1 hd) k) r
theorem Go.aconstNull (K : Cx0 bytes maxL ret mn p meth c) (hq : pc + 1 = q) (hd : decode bytes pc = .ok (.aconst_null, 1)) (r : Go p l e R s m args below meth c Z own cl xs0 n0 kc ks Q xs h cells slots (mkF m q L (.null :: S))) : Go p l e R s m args below meth c Z own cl xs0 n0 kc ks Q xs h cells slots (mkF m pc L S) := Go.of_step K (fun s' K T locs X _ t k => by subst hq; exact XS.aconstNull (g := mkF m pc L S) X.here K.1 rfl (hb K.2.2.2.1 hd) k) r
theorem Go.ldcInt (K : Cx0 bytes maxL ret mn p meth c) (hq : pc + 2 = q) {i : Nat} {v : Int32} (w : (Cond.constant own i v).before a0 Z = true) (hd : decode bytes pc = .ok (.ldc i, 2)) (r : Go p l e R s m args below meth c Z own cl xs0 n0 kc ks Q xs h cells slots (mkF m q L (.int v :: S))) : Go p l e R s m args below meth c Z own cl xs0 n0 kc ks Q xs h cells slots (mkF m pc L S) := Go.of_step K (fun s' K T locs X _ t k => by subst hq; exact X.ldcInt K.1 K.2.2.1 (mvT K.2.1 w) (g := mkF m pc L S) rfl (hb K.2.2.2.1 hd) _ k) r
theorem Go.ldc2Long (K : Cx0 bytes maxL ret mn p meth c) (hq : pc + 3 = q) {i : Nat} {v : Int64} (w : (Cond.constantLong own i v).before a0 Z = true) (hd : decode bytes pc = .ok (.ldc2_w i, 3)) (r : Go p l e R s m args below meth c Z own cl xs0 n0 kc ks Q xs h cells slots (mkF m q L (.long v :: S))) : Go p l e R s m args below meth c Z own cl xs0 n0 kc ks Q xs h cells slots (mkF m pc L S) := Go.of_step K (fun s' K T locs X _ t k => by subst hq; exact X.ldc2Long K.1 K.2.2.1 (mvT K.2.1 w) (g := mkF m pc L S) rfl (hb K.2.2.2.1 hd) _ k) r
theorem Go.iadd (K : Cx0 bytes maxL ret mn p meth c) (hq : pc + 1 = q) {x y : Int32} (hd : decode bytes pc = .ok (.iadd, 1)) (r : Go p l e R s m args below meth c Z own cl xs0 n0 kc ks Q xs h cells slots (mkF m q L (.int (x + y) :: S))) : Go p l e R s m args below meth c Z own cl xs0 n0 kc ks Q xs h cells slots (mkF m pc L (.int y :: .int x :: S)) := Go.of_step K (fun s' K T locs X _ t k => by subst hq; exact XS.iadd (g := mkF m pc L (.int y :: .int x :: S)) X.here K.1 rfl (hb K.2.2.2.1 hd) rfl k) r
theorem Go.isub (K : Cx0 bytes maxL ret mn p meth c) (hq : pc + 1 = q) {x y : Int32} (hd : decode bytes pc = .ok (.isub, 1)) (r : Go p l e R s m args below meth c Z own cl xs0 n0 kc ks Q xs h cells slots (mkF m q L (.int (x - y) :: S))) : Go p l e R s m args below meth c Z own cl xs0 n0 kc ks Q xs h cells slots (mkF m pc L (.int y :: .int x :: S)) := Go.of_step K (fun s' K T locs X _ t k => by subst hq; exact XS.isub (g := mkF m pc L (.int y :: .int x :: S)) X.here K.1 rfl (hb K.2.2.2.1 hd) rfl k) r
theorem Go.imul (K : Cx0 bytes maxL ret mn p meth c) (hq : pc + 1 = q) {x y : Int32} (hd : decode bytes pc = .ok (.imul, 1)) (r : Go p l e R s m args below meth c Z own cl xs0 n0 kc ks Q xs h cells slots (mkF m q L (.int (x * y) :: S))) : Go p l e R s m args below meth c Z own cl xs0 n0 kc ks Q xs h cells slots (mkF m pc L (.int y :: .int x :: S)) := Go.of_step K (fun s' K T locs X _ t k => by subst hq; exact XS.imul (g := mkF m pc L (.int y :: .int x :: S)) X.here K.1 rfl (hb K.2.2.2.1 hd) rfl k) r
theorem Go.iand (K : Cx0 bytes maxL ret mn p meth c) (hq : pc + 1 = q) {x y : Int32} (hd : decode bytes pc = .ok (.iand, 1)) (r : Go p l e R s m args below meth c Z own cl xs0 n0 kc ks Q xs h cells slots (mkF m q L (.int (x &&& y) :: S))) : Go p l e R s m args below meth c Z own cl xs0 n0 kc ks Q xs h cells slots (mkF m pc L (.int y :: .int x :: S)) := Go.of_step K (fun s' K T locs X _ t k => by subst hq; exact XS.iand (g := mkF m pc L (.int y :: .int x :: S)) X.here K.1 rfl (hb K.2.2.2.1 hd) rfl k) r
theorem Go.ior (K : Cx0 bytes maxL ret mn p meth c) (hq : pc + 1 = q) {x y : Int32} (hd : decode bytes pc = .ok (.ior, 1)) (r : Go p l e R s m args below meth c Z own cl xs0 n0 kc ks Q xs h cells slots (mkF m q L (.int (x ||| y) :: S))) : Go p l e R s m args below meth c Z own cl xs0 n0 kc ks Q xs h cells slots (mkF m pc L (.int y :: .int x :: S)) := Go.of_step K (fun s' K T locs X _ t k => by subst hq; exact XS.ior (g := mkF m pc L (.int y :: .int x :: S)) X.here K.1 rfl (hb K.2.2.2.1 hd) rfl k) r
theorem Go.ixor (K : Cx0 bytes maxL ret mn p meth c) (hq : pc + 1 = q) {x y : Int32} (hd : decode bytes pc = .ok (.ixor, 1)) (r : Go p l e R s m args below meth c Z own cl xs0 n0 kc ks Q xs h cells slots (mkF m q L (.int (x ^^^ y) :: S))) : Go p l e R s m args below meth c Z own cl xs0 n0 kc ks Q xs h cells slots (mkF m pc L (.int y :: .int x :: S)) := Go.of_step K (fun s' K T locs X _ t k => by subst hq; exact XS.ixor (g := mkF m pc L (.int y :: .int x :: S)) X.here K.1 rfl (hb K.2.2.2.1 hd) rfl k) r
theorem Go.ishl (K : Cx0 bytes maxL ret mn p meth c) (hq : pc + 1 = q) {x y : Int32} (hd : decode bytes pc = .ok (.ishl, 1)) (r : Go p l e R s m args below meth c Z own cl xs0 n0 kc ks Q xs h cells slots (mkF m q L (.int (x <<< (y &&& 31)) :: S))) : Go p l e R s m args below meth c Z own cl xs0 n0 kc ks Q xs h cells slots (mkF m pc L (.int y :: .int x :: S)) := Go.of_step K (fun s' K T locs X _ t k => by subst hq; exact XS.ishl (g := mkF m pc L (.int y :: .int x :: S)) X.here K.1 rfl (hb K.2.2.2.1 hd) rfl k) r
theorem Go.ishr (K : Cx0 bytes maxL ret mn p meth c) (hq : pc + 1 = q) {x y : Int32} (hd : decode bytes pc = .ok (.ishr, 1)) (r : Go p l e R s m args below meth c Z own cl xs0 n0 kc ks Q xs h cells slots (mkF m q L (.int (x >>> (y &&& 31)) :: S))) : Go p l e R s m args below meth c Z own cl xs0 n0 kc ks Q xs h cells slots (mkF m pc L (.int y :: .int x :: S)) := Go.of_step K (fun s' K T locs X _ t k => by subst hq; exact XS.ishr (g := mkF m pc L (.int y :: .int x :: S)) X.here K.1 rfl (hb K.2.2.2.1 hd) rfl k) r
theorem Go.iushr (K : Cx0 bytes maxL ret mn p meth c) (hq : pc + 1 = q) {x y : Int32} (hd : decode bytes pc = .ok (.iushr, 1)) (r : Go p l e R s m args below meth c Z own cl xs0 n0 kc ks Q xs h cells slots (mkF m q L (.int ((x.toUInt32 >>> (y &&& 31).toUInt32).toInt32) :: S))) : Go p l e R s m args below meth c Z own cl xs0 n0 kc ks Q xs h cells slots (mkF m pc L (.int y :: .int x :: S)) := Go.of_step K (fun s' K T locs X _ t k => by subst hq; exact XS.iushr (g := mkF m pc L (.int y :: .int x :: S)) X.here K.1 rfl (hb K.2.2.2.1 hd) rfl k) r
theorem Go.ladd (K : Cx0 bytes maxL ret mn p meth c) (hq : pc + 1 = q) {x y : Int64} (hd : decode bytes pc = .ok (.ladd, 1)) (r : Go p l e R s m args below meth c Z own cl xs0 n0 kc ks Q xs h cells slots (mkF m q L (.long (x + y) :: S))) : Go p l e R s m args below meth c Z own cl xs0 n0 kc ks Q xs h cells slots (mkF m pc L (.long y :: .long x :: S)) := Go.of_step K (fun s' K T locs X _ t k => by subst hq; exact XS.ladd (g := mkF m pc L (.long y :: .long x :: S)) X.here K.1 rfl (hb K.2.2.2.1 hd) rfl k) r
theorem Go.lsub (K : Cx0 bytes maxL ret mn p meth c) (hq : pc + 1 = q) {x y : Int64} (hd : decode bytes pc = .ok (.lsub, 1)) (r : Go p l e R s m args below meth c Z own cl xs0 n0 kc ks Q xs h cells slots (mkF m q L (.long (x - y) :: S))) : Go p l e R s m args below meth c Z own cl xs0 n0 kc ks Q xs h cells slots (mkF m pc L (.long y :: .long x :: S)) := Go.of_step K (fun s' K T locs X _ t k => by subst hq; exact XS.lsub (g := mkF m pc L (.long y :: .long x :: S)) X.here K.1 rfl (hb K.2.2.2.1 hd) rfl k) r
theorem Go.lmul (K : Cx0 bytes maxL ret mn p meth c) (hq : pc + 1 = q) {x y : Int64} (hd : decode bytes pc = .ok (.lmul, 1)) (r : Go p l e R s m args below meth c Z own cl xs0 n0 kc ks Q xs h cells slots (mkF m q L (.long (x * y) :: S))) : Go p l e R s m args below meth c Z own cl xs0 n0 kc ks Q xs h cells slots (mkF m pc L (.long y :: .long x :: S)) := Go.of_step K (fun s' K T locs X _ t k => by subst hq; exact XS.lmul (g := mkF m pc L (.long y :: .long x :: S)) X.here K.1 rfl (hb K.2.2.2.1 hd) rfl k) r
theorem Go.land (K : Cx0 bytes maxL ret mn p meth c) (hq : pc + 1 = q) {x y : Int64} (hd : decode bytes pc = .ok (.land, 1)) (r : Go p l e R s m args below meth c Z own cl xs0 n0 kc ks Q xs h cells slots (mkF m q L (.long (x &&& y) :: S))) : Go p l e R s m args below meth c Z own cl xs0 n0 kc ks Q xs h cells slots (mkF m pc L (.long y :: .long x :: S)) := Go.of_step K (fun s' K T locs X _ t k => by subst hq; exact XS.land (g := mkF m pc L (.long y :: .long x :: S)) X.here K.1 rfl (hb K.2.2.2.1 hd) rfl k) r
theorem Go.lor (K : Cx0 bytes maxL ret mn p meth c) (hq : pc + 1 = q) {x y : Int64} (hd : decode bytes pc = .ok (.lor, 1)) (r : Go p l e R s m args below meth c Z own cl xs0 n0 kc ks Q xs h cells slots (mkF m q L (.long (x ||| y) :: S))) : Go p l e R s m args below meth c Z own cl xs0 n0 kc ks Q xs h cells slots (mkF m pc L (.long y :: .long x :: S)) := Go.of_step K (fun s' K T locs X _ t k => by subst hq; exact XS.lor (g := mkF m pc L (.long y :: .long x :: S)) X.here K.1 rfl (hb K.2.2.2.1 hd) rfl k) r
theorem Go.lxor (K : Cx0 bytes maxL ret mn p meth c) (hq : pc + 1 = q) {x y : Int64} (hd : decode bytes pc = .ok (.lxor, 1)) (r : Go p l e R s m args below meth c Z own cl xs0 n0 kc ks Q xs h cells slots (mkF m q L (.long (x ^^^ y) :: S))) : Go p l e R s m args below meth c Z own cl xs0 n0 kc ks Q xs h cells slots (mkF m pc L (.long y :: .long x :: S)) := Go.of_step K (fun s' K T locs X _ t k => by subst hq; exact XS.lxor (g := mkF m pc L (.long y :: .long x :: S)) X.here K.1 rfl (hb K.2.2.2.1 hd) rfl k) r
theorem Go.lshl (K : Cx0 bytes maxL ret mn p meth c) (hq : pc + 1 = q) {x : Int64} {y : Int32} (hd : decode bytes pc = .ok (.lshl, 1)) (r : Go p l e R s m args below meth c Z own cl xs0 n0 kc ks Q xs h cells slots (mkF m q L (.long (x <<< (y &&& 0x3f).toInt64) :: S))) : Go p l e R s m args below meth c Z own cl xs0 n0 kc ks Q xs h cells slots (mkF m pc L (.int y :: .long x :: S)) := Go.of_step K (fun s' K T locs X _ t k => by subst hq; exact XS.lshl (g := mkF m pc L (.int y :: .long x :: S)) X.here K.1 rfl (hb K.2.2.2.1 hd) rfl k) r
theorem Go.lshr (K : Cx0 bytes maxL ret mn p meth c) (hq : pc + 1 = q) {x : Int64} {y : Int32} (hd : decode bytes pc = .ok (.lshr, 1)) (r : Go p l e R s m args below meth c Z own cl xs0 n0 kc ks Q xs h cells slots (mkF m q L (.long (x >>> (y &&& 0x3f).toInt64) :: S))) : Go p l e R s m args below meth c Z own cl xs0 n0 kc ks Q xs h cells slots (mkF m pc L (.int y :: .long x :: S)) := Go.of_step K (fun s' K T locs X _ t k => by subst hq; exact XS.lshr (g := mkF m pc L (.int y :: .long x :: S)) X.here K.1 rfl (hb K.2.2.2.1 hd) rfl k) r
theorem Go.lushr (K : Cx0 bytes maxL ret mn p meth c) (hq : pc + 1 = q) {x : Int64} {y : Int32} (hd : decode bytes pc = .ok (.lushr, 1)) (r : Go p l e R s m args below meth c Z own cl xs0 n0 kc ks Q xs h cells slots (mkF m q L (.long ((x.toUInt64 >>> (y &&& 0x3f).toInt64.toUInt64).toInt64) :: S))) : Go p l e R s m args below meth c Z own cl xs0 n0 kc ks Q xs h cells slots (mkF m pc L (.int y :: .long x :: S)) := Go.of_step K (fun s' K T locs X _ t k => by subst hq; exact XS.lushr (g := mkF m pc L (.int y :: .long x :: S)) X.here K.1 rfl (hb K.2.2.2.1 hd) rfl k) r
theorem Go.lcmp (K : Cx0 bytes maxL ret mn p meth c) (hq : pc + 1 = q) {x y : Int64} (hd : decode bytes pc = .ok (.lcmp, 1)) (r : Go p l e R s m args below meth c Z own cl xs0 n0 kc ks Q xs h cells slots (mkF m q L (.int (lcmpW x y) :: S))) : Go p l e R s m args below meth c Z own cl xs0 n0 kc ks Q xs h cells slots (mkF m pc L (.long y :: .long x :: S)) := Go.of_step K (fun s' K T locs X _ t k => by subst hq; exact XS.lcmp (g := mkF m pc L (.long y :: .long x :: S)) X.here K.1 rfl (hb K.2.2.2.1 hd) rfl k) r
theorem Go.ineg (K : Cx0 bytes maxL ret mn p meth c) (hq : pc + 1 = q) {x : Int32} (hd : decode bytes pc = .ok (.ineg, 1)) (r : Go p l e R s m args below meth c Z own cl xs0 n0 kc ks Q xs h cells slots (mkF m q L (.int (-x) :: S))) : Go p l e R s m args below meth c Z own cl xs0 n0 kc ks Q xs h cells slots (mkF m pc L (.int x :: S)) := Go.of_step K (fun s' K T locs X _ t k => by subst hq; exact XS.ineg (g := mkF m pc L (.int x :: S)) X.here K.1 rfl (hb K.2.2.2.1 hd) rfl k) r
theorem Go.i2l (K : Cx0 bytes maxL ret mn p meth c) (hq : pc + 1 = q) {x : Int32} (hd : decode bytes pc = .ok (.i2l, 1)) (r : Go p l e R s m args below meth c Z own cl xs0 n0 kc ks Q xs h cells slots (mkF m q L (.long x.toInt64 :: S))) : Go p l e R s m args below meth c Z own cl xs0 n0 kc ks Q xs h cells slots (mkF m pc L (.int x :: S)) := Go.of_step K (fun s' K T locs X _ t k => by subst hq; exact XS.i2l (g := mkF m pc L (.int x :: S)) X.here K.1 rfl (hb K.2.2.2.1 hd) rfl k) r
theorem Go.l2i (K : Cx0 bytes maxL ret mn p meth c) (hq : pc + 1 = q) {x : Int64} (hd : decode bytes pc = .ok (.l2i, 1)) (r : Go p l e R s m args below meth c Z own cl xs0 n0 kc ks Q xs h cells slots (mkF m q L (.int x.toInt32 :: S))) : Go p l e R s m args below meth c Z own cl xs0 n0 kc ks Q xs h cells slots (mkF m pc L (.long x :: S)) := Go.of_step K (fun s' K T locs X _ t k => by subst hq; exact XS.l2i (g := mkF m pc L (.long x :: S)) X.here K.1 rfl (hb K.2.2.2.1 hd) rfl k) r
theorem Go.i2b (K : Cx0 bytes maxL ret mn p meth c) (hq : pc + 1 = q) {x : Int32} (hd : decode bytes pc = .ok (.i2b, 1)) (r : Go p l e R s m args below meth c Z own cl xs0 n0 kc ks Q xs h cells slots (mkF m q L (.int x.toInt8.toInt32 :: S))) : Go p l e R s m args below meth c Z own cl xs0 n0 kc ks Q xs h cells slots (mkF m pc L (.int x :: S)) := Go.of_step K (fun s' K T locs X _ t k => by subst hq; exact XS.i2b (g := mkF m pc L (.int x :: S)) X.here K.1 rfl (hb K.2.2.2.1 hd) rfl k) r
theorem Go.i2s (K : Cx0 bytes maxL ret mn p meth c) (hq : pc + 1 = q) {x : Int32} (hd : decode bytes pc = .ok (.i2s, 1)) (r : Go p l e R s m args below meth c Z own cl xs0 n0 kc ks Q xs h cells slots (mkF m q L (.int x.toInt16.toInt32 :: S))) : Go p l e R s m args below meth c Z own cl xs0 n0 kc ks Q xs h cells slots (mkF m pc L (.int x :: S)) := Go.of_step K (fun s' K T locs X _ t k => by subst hq; exact XS.i2s (g := mkF m pc L (.int x :: S)) X.here K.1 rfl (hb K.2.2.2.1 hd) rfl k) r
theorem Go.i2c (K : Cx0 bytes maxL ret mn p meth c) (hq : pc + 1 = q) {x : Int32} (hd : decode bytes pc = .ok (.i2c, 1)) (r : Go p l e R s m args below meth c Z own cl xs0 n0 kc ks Q xs h cells slots (mkF m q L (.int x.toUInt32.toUInt16.toUInt32.toInt32 :: S))) : Go p l e R s m args below meth c Z own cl xs0 n0 kc ks Q xs h cells slots (mkF m pc L (.int x :: S)) := Go.of_step K (fun s' K T locs X _ t k => by subst hq; exact XS.i2c (g := mkF m pc L (.int x :: S)) X.here K.1 rfl (hb K.2.2.2.1 hd) rfl k) r
theorem Go.irem (K : Cx0 bytes maxL ret mn p meth c) (hq : pc + 1 = q) {x y : Int32} (hd : decode bytes pc = .ok (.irem, 1)) (hy : y ≠ 0) (r : Go p l e R s m args below meth c Z own cl xs0 n0 kc ks Q xs h cells slots (mkF m q L (.int (x % y) :: S))) : Go p l e R s m args below meth c Z own cl xs0 n0 kc ks Q xs h cells slots (mkF m pc L (.int y :: .int x :: S)) := Go.of_step K (fun s' K T locs X _ t k => by subst hq; exact iremM (g := mkF m pc L (.int y :: .int x :: S)) X K.1 rfl (hb K.2.2.2.1 hd) rfl hy k) r
theorem Go.idiv (K : Cx0 bytes maxL ret mn p meth c) (hq : pc + 1 = q) {x y : Int32} (hd : decode bytes pc = .ok (.idiv, 1)) (hy : y ≠ 0) (r : Go p l e R s m args below meth c Z own cl xs0 n0 kc ks Q xs h cells slots (mkF m q L (.int (x / y) :: S))) : Go p l e R s m args below meth c Z own cl xs0 n0 kc ks Q xs h cells slots (mkF m pc L (.int y :: .int x :: S)) := Go.of_step K (fun s' K T locs X _ t k => by subst hq; exact XS.idiv (g := mkF m pc L (.int y :: .int x :: S)) X.here K.1 rfl (hb K.2.2.2.1 hd) rfl hy k) r
theorem Go.dup (K : Cx0 bytes maxL ret mn p meth c) (hq : pc + 1 = q) {x : Value} (hd : decode bytes pc = .ok (.dup, 1)) (hc : x.category = 1) (r : Go p l e R s m args below meth c Z own cl xs0 n0 kc ks Q xs h cells slots (mkF m q L (x :: x :: S))) : Go p l e R s m args below meth c Z own cl xs0 n0 kc ks Q xs h cells slots (mkF m pc L (x :: S)) := Go.of_step K (fun s' K T locs X _ t k => by subst hq; exact XS.dup (g := mkF m pc L (x :: S)) X.here K.1 rfl (hb K.2.2.2.1 hd) rfl hc k) r
theorem Go.dupX1 (K : Cx0 bytes maxL ret mn p meth c) (hq : pc + 1 = q) {x y : Value} (hd : decode bytes pc = .ok (.dup_x1, 1)) (hc : x.category = 1) (hc' : y.category = 1) (r : Go p l e R s m args below meth c Z own cl xs0 n0 kc ks Q xs h cells slots (mkF m q L (x :: y :: x :: S))) : Go p l e R s m args below meth c Z own cl xs0 n0 kc ks Q xs h cells slots (mkF m pc L (x :: y :: S)) := Go.of_step K (fun s' K T locs X _ t k => by subst hq; exact XS.dupX1 (g := mkF m pc L (x :: y :: S)) X.here K.1 rfl (hb K.2.2.2.1 hd) rfl hc hc' k) r
theorem Go.pop (K : Cx0 bytes maxL ret mn p meth c) (hq : pc + 1 = q) {x : Value} (hd : decode bytes pc = .ok (.pop, 1)) (hc : x.category = 1) (r : Go p l e R s m args below meth c Z own cl xs0 n0 kc ks Q xs h cells slots (mkF m q L S)) : Go p l e R s m args below meth c Z own cl xs0 n0 kc ks Q xs h cells slots (mkF m pc L (x :: S)) := Go.of_step K (fun s' K T locs X _ t k => by subst hq; exact XS.pop (g := mkF m pc L (x :: S)) X.here K.1 rfl (hb K.2.2.2.1 hd) rfl hc k) r
theorem Go.istoreN (K : Cx0 bytes maxL ret mn p meth c) (hq : pc + 1 = q) {k : Fin 4} {x : Int32} {L' : Array Slot} (hd : decode bytes pc = .ok (.istore_n k, 1)) (hl : storeLocals L k.val (.int x) = some L') (r : Go p l e R s m args below meth c Z own cl xs0 n0 kc ks Q xs h cells slots (mkF m q L' S)) : Go p l e R s m args below meth c Z own cl xs0 n0 kc ks Q xs h cells slots (mkF m pc L (.int x :: S)) := Go.of_step K (fun s' K T locs X _ t k => by subst hq; exact XS.istoreN (g := mkF m pc L (.int x :: S)) X.here K.1 rfl (hb K.2.2.2.1 hd) rfl hl k) r
theorem Go.istore (K : Cx0 bytes maxL ret mn p meth c) (hq : pc + 2 = q) {k : Nat} {x : Int32} {L' : Array Slot} (hd : decode bytes pc = .ok (.istore k, 2)) (hl : storeLocals L k (.int x) = some L') (r : Go p l e R s m args below meth c Z own cl xs0 n0 kc ks Q xs h cells slots (mkF m q L' S)) : Go p l e R s m args below meth c Z own cl xs0 n0 kc ks Q xs h cells slots (mkF m pc L (.int x :: S)) := Go.of_step K (fun s' K T locs X _ t k => by subst hq; exact XS.istore (g := mkF m pc L (.int x :: S)) X.here K.1 rfl (hb K.2.2.2.1 hd) rfl hl k) r
theorem Go.lstoreN (K : Cx0 bytes maxL ret mn p meth c) (hq : pc + 1 = q) {k : Fin 4} {x : Int64} {L' : Array Slot} (hd : decode bytes pc = .ok (.lstore_n k, 1)) (hl : storeLocals L k.val (.long x) = some L') (r : Go p l e R s m args below meth c Z own cl xs0 n0 kc ks Q xs h cells slots (mkF m q L' S)) : Go p l e R s m args below meth c Z own cl xs0 n0 kc ks Q xs h cells slots (mkF m pc L (.long x :: S)) := Go.of_step K (fun s' K T locs X _ t k => by subst hq; exact XS.lstoreN (g := mkF m pc L (.long x :: S)) X.here K.1 rfl (hb K.2.2.2.1 hd) rfl hl k) r
theorem Go.lstore (K : Cx0 bytes maxL ret mn p meth c) (hq : pc + 2 = q) {k : Nat} {x : Int64} {L' : Array Slot} (hd : decode bytes pc = .ok (.lstore k, 2)) (hl : storeLocals L k (.long x) = some L') (r : Go p l e R s m args below meth c Z own cl xs0 n0 kc ks Q xs h cells slots (mkF m q L' S)) : Go p l e R s m args below meth c Z own cl xs0 n0 kc ks Q xs h cells slots (mkF m pc L (.long x :: S)) := Go.of_step K (fun s' K T locs X _ t k => by subst hq; exact XS.lstore (g := mkF m pc L (.long x :: S)) X.here K.1 rfl (hb K.2.2.2.1 hd) rfl hl k) r
theorem Go.astoreN (K : Cx0 bytes maxL ret mn p meth c) (hq : pc + 1 = q) {k : Fin 4} {x : Value} {L' : Array Slot} (hd : decode bytes pc = .ok (.astore_n k, 1)) (hv : x.isRef = true) (hl : storeLocals L k.val x = some L') (r : Go p l e R s m args below meth c Z own cl xs0 n0 kc ks Q xs h cells slots (mkF m q L' S)) : Go p l e R s m args below meth c Z own cl xs0 n0 kc ks Q xs h cells slots (mkF m pc L (x :: S)) := Go.of_step K (fun s' K T locs X _ t k => by subst hq; exact XS.astoreN (g := mkF m pc L (x :: S)) X.here K.1 rfl (hb K.2.2.2.1 hd) rfl hv hl k) r
theorem Go.astore (K : Cx0 bytes maxL ret mn p meth c) (hq : pc + 2 = q) {k : Nat} {x : Value} {L' : Array Slot} (hd : decode bytes pc = .ok (.astore k, 2)) (hv : x.isRef = true) (hl : storeLocals L k x = some L') (r : Go p l e R s m args below meth c Z own cl xs0 n0 kc ks Q xs h cells slots (mkF m q L' S)) : Go p l e R s m args below meth c Z own cl xs0 n0 kc ks Q xs h cells slots (mkF m pc L (x :: S)) := Go.of_step K (fun s' K T locs X _ t k => by subst hq; exact XS.astore (g := mkF m pc L (x :: S)) X.here K.1 rfl (hb K.2.2.2.1 hd) rfl hv hl k) r
theorem Go.iinc (K : Cx0 bytes maxL ret mn p meth c) (hq : pc + 3 = q) {k : Nat} {cst : Int} {x y : Int32} {L' : Array Slot} (hy : Int32.ofInt cst = y) (hd : decode bytes pc = .ok (.iinc k cst, 3)) (hl0 : L[k]? = some (.val (.int x))) (hl : storeLocals L k (.int (x + y)) = some L') (r : Go p l e R s m args below meth c Z own cl xs0 n0 kc ks Q xs h cells slots (mkF m q L' S)) : Go p l e R s m args below meth c Z own cl xs0 n0 kc ks Q xs h cells slots (mkF m pc L S) := Go.of_step K (fun s' K T locs X _ t k => by subst hq hy; exact XS.iinc (g := mkF m pc L S) X.here K.1 rfl (hb K.2.2.2.1 hd) hl0 hl k) r
theorem Go.goto (K : Cx0 bytes maxL ret mn p meth c) {o : Int} (ho : 0 ≤ (pc : Int) + o) (hq : ((pc : Int) + o).toNat = q) (hd : decode bytes pc = .ok (.goto o, 3)) (r : Go p l e R s m args below meth c Z own cl xs0 n0 kc ks Q xs h cells slots (mkF m q L S)) : Go p l e R s m args below meth c Z own cl xs0 n0 kc ks Q xs h cells slots (mkF m pc L S) := Go.of_step K (fun s' K T locs X _ t k => XS.goto (g := mkF m pc L S) X.here K.1 rfl (pc0 := pc) (pc' := q) rfl (hb K.2.2.2.1 hd) ho hq k) r
theorem Go.ifY (K : Cx0 bytes maxL ret mn p meth c) {o : Int} {cd : ClassFile.Cond} {x : Int32} (ho : 0 ≤ (pc : Int) + o) (hq : ((pc : Int) + o).toNat = q) (hd : decode bytes pc = .ok (.ifCond cd o, 3)) (hc : cdP cd x 0) (r : Go p l e R s m args below meth c Z own cl xs0 n0 kc ks Q xs h cells slots (mkF m q L S)) : Go p l e R s m args below meth c Z own cl xs0 n0 kc ks Q xs h cells slots (mkF m pc L (.int x :: S)) := Go.of_step K (fun s' K T locs X _ t k => XS.ifYes (g := mkF m pc L (.int x :: S)) X.here K.1 rfl (pc0 := pc) (pc' := q) rfl (hb K.2.2.2.1 hd) rfl ((if0 _ _).trans (cd_yes hc)) ho hq k) r
theorem Go.ifN (K : Cx0 bytes maxL ret mn p meth c) {o : Int} {cd : ClassFile.Cond} {x : Int32} (hq : pc + 3 = q) (hd : decode bytes pc = .ok (.ifCond cd o, 3)) (hc : cdN cd x 0) (r : Go p l e R s m args below meth c Z own cl xs0 n0 kc ks Q xs h cells slots (mkF m q L S)) : Go p l e R s m args below meth c Z own cl xs0 n0 kc ks Q xs h cells slots (mkF m pc L (.int x :: S)) := Go.of_step K (fun s' K T locs X _ t k => by subst hq; exact XS.ifNo (g := mkF m pc L (.int x :: S)) X.here K.1 rfl (hb K.2.2.2.1 hd) rfl ((if0 _ _).trans (cd_no hc)) k) r
theorem Go.icmpY (K : Cx0 bytes maxL ret mn p meth c) {o : Int} {cd : ClassFile.Cond} {x y : Int32} (ho : 0 ≤ (pc : Int) + o) (hq : ((pc : Int) + o).toNat = q) (hd : decode bytes pc = .ok (.if_icmp cd o, 3)) (hc : cdP cd x y) (r : Go p l e R s m args below meth c Z own cl xs0 n0 kc ks Q xs h cells slots (mkF m q L S)) : Go p l e R s m args below meth c Z own cl xs0 n0 kc ks Q xs h cells slots (mkF m pc L (.int y :: .int x :: S)) := Go.of_step K (fun s' K T locs X _ t k => XS.icmpYes (g := mkF m pc L (.int y :: .int x :: S)) X.here K.1 rfl (pc0 := pc) (pc' := q) rfl (hb K.2.2.2.1 hd) rfl (cd_yes hc) ho hq k) r
theorem Go.icmpN (K : Cx0 bytes maxL ret mn p meth c) {o : Int} {cd : ClassFile.Cond} {x y : Int32} (hq : pc + 3 = q) (hd : decode bytes pc = .ok (.if_icmp cd o, 3)) (hc : cdN cd x y) (r : Go p l e R s m args below meth c Z own cl xs0 n0 kc ks Q xs h cells slots (mkF m q L S)) : Go p l e R s m args below meth c Z own cl xs0 n0 kc ks Q xs h cells slots (mkF m pc L (.int y :: .int x :: S)) := Go.of_step K (fun s' K T locs X _ t k => by subst hq; exact XS.icmpNo (g := mkF m pc L (.int y :: .int x :: S)) X.here K.1 rfl (hb K.2.2.2.1 hd) rfl (cd_no hc) k) r
theorem Go.ifc (K : Cx0 bytes maxL ret mn p meth c) {o : Int} {cd : ClassFile.Cond} {x : Int32} {q' : Nat} (ho : 0 ≤ (pc : Int) + o) (hq : ((pc : Int) + o).toNat = q) (hq' : pc + 3 = q') (hd : decode bytes pc = .ok (.ifCond cd o, 3)) (r : cdP cd x 0 → Go p l e R s m args below meth c Z own cl xs0 n0 kc ks Q xs h cells slots (mkF m q L S)) (r' : cdN cd x 0 → Go p l e R s m args below meth c Z own cl xs0 n0 kc ks Q xs h cells slots (mkF m q' L S)) : Go p l e R s m args below meth c Z own cl xs0 n0 kc ks Q xs h cells slots (mkF m pc L (.int x :: S)) :=
  (cd_em cd x 0).elim (fun hc => Go.ifY K ho hq hd hc (r hc)) (fun hc => Go.ifN K hq' hd hc (r' hc))
theorem Go.icmp (K : Cx0 bytes maxL ret mn p meth c) {o : Int} {cd : ClassFile.Cond} {x y : Int32} {q' : Nat} (ho : 0 ≤ (pc : Int) + o) (hq : ((pc : Int) + o).toNat = q) (hq' : pc + 3 = q') (hd : decode bytes pc = .ok (.if_icmp cd o, 3)) (r : cdP cd x y → Go p l e R s m args below meth c Z own cl xs0 n0 kc ks Q xs h cells slots (mkF m q L S)) (r' : cdN cd x y → Go p l e R s m args below meth c Z own cl xs0 n0 kc ks Q xs h cells slots (mkF m q' L S)) : Go p l e R s m args below meth c Z own cl xs0 n0 kc ks Q xs h cells slots (mkF m pc L (.int y :: .int x :: S)) :=
  (cd_em cd x y).elim (fun hc => Go.icmpY K ho hq hd hc (r hc)) (fun hc => Go.icmpN K hq' hd hc (r' hc))
theorem Go.ifnullY (K : Cx0 bytes maxL ret mn p meth c) {o : Int} (ho : 0 ≤ (pc : Int) + o) (hq : ((pc : Int) + o).toNat = q) (hd : decode bytes pc = .ok (.ifnull o, 3)) (r : Go p l e R s m args below meth c Z own cl xs0 n0 kc ks Q xs h cells slots (mkF m q L S)) : Go p l e R s m args below meth c Z own cl xs0 n0 kc ks Q xs h cells slots (mkF m pc L (.null :: S)) := Go.of_step K (fun s' K T locs X _ t k => XS.ifnullYes (g := mkF m pc L (.null :: S)) X.here K.1 rfl (pc0 := pc) (pc' := q) rfl (hb K.2.2.2.1 hd) rfl ho hq k) r
theorem Go.ifnullN (K : Cx0 bytes maxL ret mn p meth c) {o : Int} {b : Addr} (hq : pc + 3 = q) (hd : decode bytes pc = .ok (.ifnull o, 3)) (r : Go p l e R s m args below meth c Z own cl xs0 n0 kc ks Q xs h cells slots (mkF m q L S)) : Go p l e R s m args below meth c Z own cl xs0 n0 kc ks Q xs h cells slots (mkF m pc L (.ref b :: S)) := Go.of_step K (fun s' K T locs X _ t k => by subst hq; exact XS.ifnullNo (g := mkF m pc L (.ref b :: S)) X.here K.1 rfl (hb K.2.2.2.1 hd) rfl k) r
theorem Go.ifnonnullY (K : Cx0 bytes maxL ret mn p meth c) {o : Int} {b : Addr} (ho : 0 ≤ (pc : Int) + o) (hq : ((pc : Int) + o).toNat = q) (hd : decode bytes pc = .ok (.ifnonnull o, 3)) (r : Go p l e R s m args below meth c Z own cl xs0 n0 kc ks Q xs h cells slots (mkF m q L S)) : Go p l e R s m args below meth c Z own cl xs0 n0 kc ks Q xs h cells slots (mkF m pc L (.ref b :: S)) := Go.of_step K (fun s' K T locs X _ t k => XS.ifnonnullYes (g := mkF m pc L (.ref b :: S)) X.here K.1 rfl (pc0 := pc) (pc' := q) rfl (hb K.2.2.2.1 hd) rfl ho hq k) r
theorem Go.ifnonnullN (K : Cx0 bytes maxL ret mn p meth c) {o : Int} (hq : pc + 3 = q) (hd : decode bytes pc = .ok (.ifnonnull o, 3)) (r : Go p l e R s m args below meth c Z own cl xs0 n0 kc ks Q xs h cells slots (mkF m q L S)) : Go p l e R s m args below meth c Z own cl xs0 n0 kc ks Q xs h cells slots (mkF m pc L (.null :: S)) := Go.of_step K (fun s' K T locs X _ t k => by subst hq; exact XS.ifnonnullNo (g := mkF m pc L (.null :: S)) X.here K.1 rfl (hb K.2.2.2.1 hd) rfl k) r
theorem Go.acmp (K : Cx0 bytes maxL ret mn p meth c) {o : Int} {cd : ACond} {x y : Value} (h1 : x.isRef = true) (h2 : y.isRef = true) {same : Bool} (hs : decide (x = y) = same) (ho : 0 ≤ (pc : Int) + o) (hq : q = if acV cd same = true then ((pc : Int) + o).toNat else pc + 3) (hd : decode bytes pc = .ok (.if_acmp cd o, 3)) (r : Go p l e R s m args below meth c Z own cl xs0 n0 kc ks Q xs h cells slots (mkF m q L S)) : Go p l e R s m args below meth c Z own cl xs0 n0 kc ks Q xs h cells slots (mkF m pc L (y :: x :: S)) := Go.of_step K (fun s' K T locs X _ t k => Jvm.RoadKit.acmp (g := mkF m pc L (y :: x :: S)) X K.1 rfl h1 h2 (pc0 := pc) (pc' := q) rfl (hb K.2.2.2.1 hd) rfl hs ho hq k) r
theorem Go.getF (K : Cx0 bytes maxL ret mn p meth c) (hq : pc + 3 = q) {R0 O n d : String} {i : Nat} (w : (Cond.fieldLink own i R0 n d).before a0 Z = true) (via : Via Z R0 O n d) {a : Addr} {v : Value} (F : Fld Z h a O n d v) (hd : decode bytes pc = .ok (.getfield i, 3)) (r : Go p l e R s m args below meth c Z own cl xs0 n0 kc ks Q xs h cells slots (mkF m q L (v :: S))) : Go p l e R s m args below meth c Z own cl xs0 n0 kc ks Q xs h cells slots (mkF m pc L (.ref a :: S)) :=
  Go.of_warm K (fun s' K T locs X eT => by subst hq; exact Jvm.RoadKit.getF X K.1 K.2.1 K.2.2.1 (host := "") (Or.inl w) via eT F (g := mkF m pc L (.ref a :: S)) rfl rfl (hb K.2.2.2.1 hd)) r
theorem Go.getS (K : Cx0 bytes maxL ret mn p meth c) (hq : pc + 3 = q) {R0 O n d : String} {i : Nat} (w : (Cond.fieldLink own i R0 n d).before a0 Z = true) (via : Via Z R0 O n d) {v : Value} (F : Sta Z h O n d v) (hd : decode bytes pc = .ok (.getstatic i, 3)) (r : Go p l e R s m args below meth c Z own cl xs0 n0 kc ks Q xs h cells slots (mkF m q L (v :: S))) : Go p l e R s m args below meth c Z own cl xs0 n0 kc ks Q xs h cells slots (mkF m pc L S) :=
  Go.of_warm K (fun s' K T locs X eT => by subst hq; exact Jvm.RoadKit.getS (host := "") X K.1 K.2.1 K.2.2.1 w via eT F (g := mkF m pc L S) rfl (hb K.2.2.2.1 hd)) r
theorem Go.castY (K : Cx0 bytes maxL ret mn p meth c) (hq : pc + 3 = q) {C : String} {i : Nat} (w : (Cond.classLink own i C).before a0 Z = true) {a : Addr} (F : Ins Z h a C true) (hd : decode bytes pc = .ok (.checkcast i, 3)) (r : Go p l e R s m args below meth c Z own cl xs0 n0 kc ks Q xs h cells slots (mkF m q L (.ref a :: S))) : Go p l e R s m args below meth c Z own cl xs0 n0 kc ks Q xs h cells slots (mkF m pc L (.ref a :: S)) :=
  Go.of_warm K (fun s' K T locs X eT => by subst hq; exact Jvm.RoadKit.castY X K.1 K.2.1 K.2.2.1 w eT F (g := mkF m pc L (.ref a :: S)) rfl rfl (hb K.2.2.2.1 hd)) r
theorem Go.instY (K : Cx0 bytes maxL ret mn p meth c) (hq : pc + 3 = q) {C : String} {i : Nat} (w : (Cond.classLink own i C).before a0 Z = true) {a : Addr} (F : Ins Z h a C true) (hd : decode bytes pc = .ok (.instanceof i, 3)) (r : Go p l e R s m args below meth c Z own cl xs0 n0 kc ks Q xs h cells slots (mkF m q L (.int 1 :: S))) : Go p l e R s m args below meth c Z own cl xs0 n0 kc ks Q xs h cells slots (mkF m pc L (.ref a :: S)) :=
  Go.of_warm K (fun s' K T locs X eT => by subst hq; exact Jvm.RoadKit.instY X K.1 K.2.1 K.2.2.1 w eT F (g := mkF m pc L (.ref a :: S)) rfl rfl (hb K.2.2.2.1 hd)) r
theorem Go.instNo (K : Cx0 bytes maxL ret mn p meth c) (hq : pc + 3 = q) {C D : String} {i : Nat} (w : (Cond.classLink own i D).before a0 Z = true) {a : Addr} (E : Exa Z h a C) (F : ∃ c t, Z.vm.findClass C = some c ∧ Z.vm.findClass D = some t ∧ Z.vm.assignable c t = false) (hd : decode bytes pc = .ok (.instanceof i, 3)) (r : Go p l e R s m args below meth c Z own cl xs0 n0 kc ks Q xs h cells slots (mkF m q L (.int 0 :: S))) : Go p l e R s m args below meth c Z own cl xs0 n0 kc ks Q xs h cells slots (mkF m pc L (.ref a :: S)) :=
  Go.of_warm K (fun s' K T locs X eT => by subst hq; exact Jvm.RoadKit.instNo X K.1 K.2.1 K.2.2.1 w eT E F (g := mkF m pc L (.ref a :: S)) rfl rfl (hb K.2.2.2.1 hd)) r
theorem Go.instNull (K : Cx0 bytes maxL ret mn p meth c) (hq : pc + 3 = q) {i : Nat} (hd : decode bytes pc = .ok (.instanceof i, 3)) (r : Go p l e R s m args below meth c Z own cl xs0 n0 kc ks Q xs h cells slots (mkF m q L (.int 0 :: S))) : Go p l e R s m args below meth c Z own cl xs0 n0 kc ks Q xs h cells slots (mkF m pc L (.null :: S)) :=
  Go.of_step K (fun s' K T locs X _ t k => by subst hq; exact X.instanceofNull K.1 (g := mkF m pc L (.null :: S)) rfl rfl (hb K.2.2.2.1 hd) _ k) r
theorem Go.castNull (K : Cx0 bytes maxL ret mn p meth c) (hq : pc + 3 = q) {i : Nat} (hd : decode bytes pc = .ok (.checkcast i, 3)) (r : Go p l e R s m args below meth c Z own cl xs0 n0 kc ks Q xs h cells slots (mkF m q L (.null :: S))) : Go p l e R s m args below meth c Z own cl xs0 n0 kc ks Q xs h cells slots (mkF m pc L (.null :: S)) :=
  Go.of_step K (fun s' K T locs X _ t k => by subst hq; exact X.checkcastNull K.1 (g := mkF m pc L (.null :: S)) rfl rfl (hb K.2.2.2.1 hd) _ k) r
theorem Go.caload (K : Cx0 bytes maxL ret mn p meth c) (hq : pc + 1 = q) {a : Addr} {k : ClassId} {z j : Int32} {vs : List Value} {dv v : Value} (A : Arv Z h a k .char z vs dv) (hd : decode bytes pc = .ok (.caload, 1)) (hj : ¬ j < 0 ∧ j < z) (hv : vs.getD j.toNatClampNeg dv = v) (r : Go p l e R s m args below meth c Z own cl xs0 n0 kc ks Q xs h cells slots (mkF m q L (v :: S))) : Go p l e R s m args below meth c Z own cl xs0 n0 kc ks Q xs h cells slots (mkF m pc L (.int j :: .ref a :: S)) :=
  Go.of_step K (fun s' K T locs X eT t kk => by
    subst hq
    obtain ⟨cl, A1, A2, A3, A4, A5, A6⟩ := A
    exact X.caload K.1 (by rw [eT]; exact A1.1) (State.isArrayOf_alike K.2.1.alike A1.2.1) A1.2.2 (inb_of A3 hj) (A5.at (inb_of A3 hj) hv) (g := mkF m pc L (.int j :: .ref a :: S)) rfl rfl (hb K.2.2.2.1 hd) _ kk) r
theorem Go.baload (K : Cx0 bytes maxL ret mn p meth c) (hq : pc + 1 = q) {a : Addr} {k : ClassId} {z j : Int32} {vs : List Value} {dv v : Value} (A : Arv Z h a k .byte z vs dv) (hd : decode bytes pc = .ok (.baload, 1)) (hj : ¬ j < 0 ∧ j < z) (hv : vs.getD j.toNatClampNeg dv = v) (r : Go p l e R s m args below meth c Z own cl xs0 n0 kc ks Q xs h cells slots (mkF m q L (v :: S))) : Go p l e R s m args below meth c Z own cl xs0 n0 kc ks Q xs h cells slots (mkF m pc L (.int j :: .ref a :: S)) :=
  Go.of_step K (fun s' K T locs X eT t kk => by
    subst hq
    obtain ⟨cl, A1, A2, A3, A4, A5, A6⟩ := A
    exact X.baloadBytes K.1 (by rw [eT]; exact A1.1) (State.isArrayOf_alike K.2.1.alike A1.2.1) A1.2.2 (inb_of A3 hj) (A5.at (inb_of A3 hj) hv) (g := mkF m pc L (.int j :: .ref a :: S)) rfl rfl (hb K.2.2.2.1 hd) _ kk) r
theorem Go.aaload (K : Cx0 bytes maxL ret mn p meth c) (hq : pc + 1 = q) {a : Addr} {k : ClassId} {ty : FieldType} {z j : Int32} {vs : List Value} {dv v : Value} (A : Arv Z h a k ty z vs dv) (hty : ty.isReference = true) (hd : decode bytes pc = .ok (.aaload, 1)) (hj : ¬ j < 0 ∧ j < z) (hv : vs.getD j.toNatClampNeg dv = v) (r : Go p l e R s m args below meth c Z own cl xs0 n0 kc ks Q xs h cells slots (mkF m q L (v :: S))) : Go p l e R s m args below meth c Z own cl xs0 n0 kc ks Q xs h cells slots (mkF m pc L (.int j :: .ref a :: S)) :=
  Go.of_step K (fun s' K T locs X eT t kk => by
    subst hq
    obtain ⟨cl, A1, A2, A3, A4, A5, A6⟩ := A
    exact X.aaload K.1 (by rw [eT]; exact A1.1) (State.isArrayOf_alike K.2.1.alike A1.2.1) hty A1.2.2 (inb_of A3 hj) (A5.at (inb_of A3 hj) hv) (g := mkF m pc L (.int j :: .ref a :: S)) rfl rfl (hb K.2.2.2.1 hd) _ kk) r
theorem Go.aaloadC (K : Cx0 bytes maxL ret mn p meth c) (hq : pc + 1 = q) {a : Addr} {ty : FieldType} {j : Int32} {ce : Cell} {v : Value} (A : Arr Z h a ce ty) (hty : ty.isReference = true) (hd : decode bytes pc = .ok (.aaload, 1)) (hj : ¬ (j < 0 ∨ ce.slots.size ≤ j.toNatClampNeg)) (hv : ce.slots[j.toNatClampNeg]? = some v) (r : Go p l e R s m args below meth c Z own cl xs0 n0 kc ks Q xs h cells slots (mkF m q L (v :: S))) : Go p l e R s m args below meth c Z own cl xs0 n0 kc ks Q xs h cells slots (mkF m pc L (.int j :: .ref a :: S)) :=
  Go.of_step K (fun s' K T locs X eT t kk => by
    subst hq
    exact X.aaload K.1 (by rw [eT]; exact A.1) (State.isArrayOf_alike K.2.1.alike A.2.1) hty A.2.2 hj hv (g := mkF m pc L (.int j :: .ref a :: S)) rfl rfl (hb K.2.2.2.1 hd) _ kk) r
theorem Go.tswIn (K : Cx0 bytes maxL ret mn p meth c) {dflt low high : Int} {offs : Array Int} {len : Nat} {o : Int} {i : Int32} (hd : decode bytes pc = .ok (.tableswitch dflt low high offs, len)) (hin : ¬ (i.toInt < low ∨ i.toInt > high)) (ho : offs[(i.toInt - low).toNat]? = some o) (h0 : 0 ≤ (pc : Int) + o) (hq : ((pc : Int) + o).toNat = q) (r : Go p l e R s m args below meth c Z own cl xs0 n0 kc ks Q xs h cells slots (mkF m q L S)) : Go p l e R s m args below meth c Z own cl xs0 n0 kc ks Q xs h cells slots (mkF m pc L (.int i :: S)) := Go.of_step K (fun s' K T locs X _ t k => XS.tswIn (g := mkF m pc L (.int i :: S)) X.here K.1 rfl (pc0 := pc) (pc' := q) rfl (hb K.2.2.2.1 hd) rfl hin ho h0 hq k) r
theorem Go.tswOut (K : Cx0 bytes maxL ret mn p meth c) {dflt low high : Int} {offs : Array Int} {len : Nat} {i : Int32} (hd : decode bytes pc = .ok (.tableswitch dflt low high offs, len)) (hin : i.toInt < low ∨ i.toInt > high) (h0 : 0 ≤ (pc : Int) + dflt) (hq : ((pc : Int) + dflt).toNat = q) (r : Go p l e R s m args below meth c Z own cl xs0 n0 kc ks Q xs h cells slots (mkF m q L S)) : Go p l e R s m args below meth c Z own cl xs0 n0 kc ks Q xs h cells slots (mkF m pc L (.int i :: S)) := Go.of_step K (fun s' K T locs X _ t k => XS.tswOut (g := mkF m pc L (.int i :: S)) X.here K.1 rfl (pc0 := pc) (pc' := q) rfl (hb K.2.2.2.1 hd) rfl hin h0 hq k) r
theorem Go.alen (K : Cx0 bytes maxL ret mn p meth c) (hq : pc + 1 = q) {a : Addr} {k : ClassId} {ty : FieldType} {z : Int32} {vs : List Value} {dv : Value} (A : Arv Z h a k ty z vs dv) (hd : decode bytes pc = .ok (.arraylength, 1)) (r : Go p l e R s m args below meth c Z own cl xs0 n0 kc ks Q xs h cells slots (mkF m q L (.int z :: S))) : Go p l e R s m args below meth c Z own cl xs0 n0 kc ks Q xs h cells slots (mkF m pc L (.ref a :: S)) :=
  Go.of_step K (fun s' K T locs X eT t kk => by
    subst hq
    obtain ⟨cl, A1, A2, A3, A4, A5, A6⟩ := A
    refine X.arraylength K.1 (by rw [eT]; exact A1.1) (State.isArrayOf_alike K.2.1.alike A1.2.1) (g := mkF m pc L (.ref a :: S)) rfl rfl (hb K.2.2.2.1 hd) _ ?_
    rw [len_of A3 A4]; exact kk) r
theorem Go.initO (K : Cx0 bytes maxL ret mn p meth c) (hq : pc + 3 = q) {i : Nat} (w1 : (Cond.methodLink own i Lib.objectInit).before a0 Z = true) (w2 : (Cond.instanceMethod Lib.objectInit).before a0 Z = true) (w3 : (Cond.code Lib.objectInit ⟨#[0xb1]⟩ 1 none).before a0 Z = true) {a : Addr} (hsz : L.size = maxL) (hd : decode bytes pc = .ok (.invokespecial i, 3)) (hf : 1 ≤ R.frames) {W : Nat} (hW : (S.map fun v => v.category).sum ≤ W) (hl : W + 12 ≤ R.locals)
    (r : Go p l e R s m args below meth c Z own cl xs0 n0 kc ks Q xs h cells slots (mkF m q L S)) : Go p l e R s m args below meth c Z own cl xs0 n0 kc ks Q xs h cells slots (mkF m pc L (.ref a :: S)) :=
  Go.of_warm K (fun s' K T locs X eT => by subst hq; exact Jvm.RoadKit.initO X K.1 K.2.1 K.2.2.1 w1 w2 w3 eT (g := mkF m pc L (.ref a :: S)) rfl (hsz.trans K.2.2.2.2.1.symm) rfl (hb K.2.2.2.1 hd) hf (W := W) (by show 2 * 0 + _ ≤ _; omega) hl) r
/-! ends -/
theorem Go.end_ {f : JFrame} (K : Cx0 bytes maxL ret mn p meth c) {v : Option Value} (hv : ret = none → v = none) (hk : cells ≤ kc) (hs : slots ≤ ks) (hx : ∀ x ∈ xs0, x ∈ xs) (hQ : Q v h)
    (st : ∀ s', Cx Z own bytes maxL ret mn p s' m meth c → ∀ T locs, Stand p l e R s' m args below meth c T locs cells slots → ∀ fs, (∀ (f : JFrame) (acts : List Action), f.method = m → f.locked = none → f.entered = [] → (doReturn e (T.setTop f) acts v).1 = T.setFrames fs) → Steps p.tables e below (T.setTop f) (T.setFrames fs)) : Go p l e R s m args below meth c Z own cl xs0 n0 kc ks Q xs h cells slots f := fun T locs vm0 k0 X hS hkk hZ ho eT N H => by
  obtain ⟨fs, hr, hrun, hended, e1, e2, e3, e4⟩ := X.leaveW hS (by rw [eT]; exact hkk) (v := v) (fun q => hv (K.2.2.2.1.symm.trans q)) K.2.2.2.2.1
  exact ⟨_, _, st (s.setVm vm0) (K.at hZ ho) T locs X fs hr, hrun, hended, v, locs, rfl, ⟨by show Q v T.heap; rw [eT]; exact hQ, by show Lits Z cl xs0 T.vm T.heap; rw [eT]; exact (H.step (s := s.setVm vm0) rfl X.warmed.wide (Or.inl X.warmed.interned_eq)).sub hx, N⟩, e1, e2, e3, e4.mono hk hs⟩
theorem Go.retV (K : Cx0 bytes maxL none mn p meth c) (hd : decode bytes pc = .ok (.return_, 1)) (hk : cells ≤ kc) (hs : slots ≤ ks) (hx : ∀ x ∈ xs0, x ∈ xs) (hQ : Q none h) : Go p l e R s m args below meth c Z own cl xs0 n0 kc ks Q xs h cells slots (mkF m pc L []) :=
  Go.end_ K (fun _ => rfl) hk hs hx hQ fun s' K T locs X fs hr => X.returnOut K.1 K.2.2.2.2.2.1 (hb K.2.2.2.1 hd) hr
theorem Go.retN {t : FieldType} {z : Int32} (K : Cx0 bytes maxL (some t) mn p meth c) (ht : t = .boolean ∨ t = .byte ∨ t = .char ∨ t = .short) (hd : decode bytes pc = .ok (.ireturn, 1)) (hk : cells ≤ kc) (hs : slots ≤ ks) (hx : ∀ x ∈ xs0, x ∈ xs) (hQ : Q (some (.int (nar t z))) h) : Go p l e R s m args below meth c Z own cl xs0 n0 kc ks Q xs h cells slots (mkF m pc L (.int z :: S)) :=
  Go.end_ K (fun q => by cases q) hk hs hx hQ fun s' K T locs X fs hr => Jvm.RoadKit.retN X K.1 K.2.2.2.2.2.1 ht (hb K.2.2.2.1 hd) hr
theorem Go.retI {z : Int32} (K : Cx0 bytes maxL (some .int) mn p meth c) (hd : decode bytes pc = .ok (.ireturn, 1)) (hk : cells ≤ kc) (hs : slots ≤ ks) (hx : ∀ x ∈ xs0, x ∈ xs) (hQ : Q (some (.int z)) h) : Go p l e R s m args below meth c Z own cl xs0 n0 kc ks Q xs h cells slots (mkF m pc L [.int z]) :=
  Go.end_ K (fun q => by cases q) hk hs hx hQ fun s' K T locs X fs hr => X.ireturnOut K.1 K.2.2.2.2.2.1 rfl (Or.inl rfl) (hb K.2.2.2.1 hd) hr
theorem Go.retA {t : FieldType} {w : Value} (K : Cx0 bytes maxL (some t) mn p meth c) (ht : t.isReference = true) (hw : w.isRef = true) (hd : decode bytes pc = .ok (.areturn, 1)) (hk : cells ≤ kc) (hs : slots ≤ ks) (hx : ∀ x ∈ xs0, x ∈ xs) (hQ : Q (some w) h) : Go p l e R s m args below meth c Z own cl xs0 n0 kc ks Q xs h cells slots (mkF m pc L [w]) :=
  Go.end_ K (fun q => by cases q) hk hs hx hQ fun s' K T locs X fs hr => X.areturnOut K.1 hw K.2.2.2.2.2.1 ht (hb K.2.2.2.1 hd) hr
theorem Go.retJ {z : Int64} (K : Cx0 bytes maxL (some .long) mn p meth c) (hd : decode bytes pc = .ok (.lreturn, 1)) (hk : cells ≤ kc) (hs : slots ≤ ks) (hx : ∀ x ∈ xs0, x ∈ xs) (hQ : Q (some (.long z)) h) : Go p l e R s m args below meth c Z own cl xs0 n0 kc ks Q xs h cells slots (mkF m pc L [.long z]) :=
  Go.end_ K (fun q => by cases q) hk hs hx hQ fun s' K T locs X fs hr => X.lreturnOut K.1 K.2.2.2.2.2.1 (hb K.2.2.2.1 hd) hr
/-! the heap -/
theorem Go.putF (K : Cx0 bytes maxL ret mn p meth c) (hq : pc + 3 = q) {R0 O n d C : String} {i kk : Nat} {ty : FieldType} (w : (Cond.fieldLink own i R0 n d).before a0 Z = true) (via : Via Z R0 O n d) {a : Addr} {v old : Value} (F : Fld Z h a O n d old) (E : Exa Z h a C) (Ly : (Cond.lays C O n d).before a0 Z = true ∨ ((Cond.laysFinal C O n d).before a0 Z = true ∧ own = O ∧ mn = "<init>")) (wi : (Cond.instantiable C kk).before a0 Z = true)
    (hty : parseFieldDescriptor d = some ty) (hn : narrow ty v = v) (hf : fits ty v = true) (hd : decode bytes pc = .ok (.putfield i, 3)) (ha : n0 ≤ a) (hax : a ∈ xs) (r : ∀ h', Wr h h' a (Jvm.RoadKit.slotOf Z O n d) v → Fld Z h' a O n d v → Exa Z h' a C → Go p l e R s m args below meth c Z own cl xs0 n0 kc ks Q xs h' cells slots (mkF m q L S)) : Go p l e R s m args below meth c Z own cl xs0 n0 kc ks Q xs h cells slots (mkF m pc L (v :: .ref a :: S)) :=
  Go.of_heap (cells' := cells) (slots' := slots) K fun s' K T locs X eT N => by
    subst hq
    obtain ⟨T', h', X', eT', W, st⟩ := Jvm.RoadKit.putF X K.1 K.2.1 K.2.2.1 (host := "") (Or.inl w) via eT F E (Ly.imp id fun z => ⟨z.1, z.2.1, K.2.2.2.2.2.2.2.trans z.2.2⟩) wi hty hn hf (g := mkF m pc L (v :: .ref a :: S)) rfl rfl (hb K.2.2.2.1 hd)
    exact ⟨T', h', _, _, xs, X', eT', Nat.le_of_eq W.size.symm, Fr.snoc X' N ha, fun vm H => H.wr W hax, st, r h' W (F.same W) (E.wr W)⟩
theorem Go.putFN (K : Cx0 bytes maxL ret mn p meth c) (hq : pc + 3 = q) {R0 O n d C : String} {i kk : Nat} {ty : FieldType} (w : (Cond.fieldLink own i R0 n d).before a0 Z = true) (via : Via Z R0 O n d) {a : Addr} {v v' old : Value} (F : Fld Z h a O n d old) (E : Exa Z h a C) (Ly : (Cond.lays C O n d).before a0 Z = true ∨ ((Cond.laysFinal C O n d).before a0 Z = true ∧ own = O ∧ mn = "<init>")) (wi : (Cond.instantiable C kk).before a0 Z = true)
    (hty : parseFieldDescriptor d = some ty) (hn : narrow ty v = v') (hf : fits ty v' = true) (hd : decode bytes pc = .ok (.putfield i, 3)) (ha : n0 ≤ a) (hax : a ∈ xs) (r : ∀ h', Wr h h' a (Jvm.RoadKit.slotOf Z O n d) v' → Fld Z h' a O n d v' → Exa Z h' a C → Go p l e R s m args below meth c Z own cl xs0 n0 kc ks Q xs h' cells slots (mkF m q L S)) : Go p l e R s m args below meth c Z own cl xs0 n0 kc ks Q xs h cells slots (mkF m pc L (v :: .ref a :: S)) :=
  Go.of_heap (cells' := cells) (slots' := slots) K fun s' K T locs X eT N => by
    subst hq
    obtain ⟨T', h', X', eT', W, st⟩ := Jvm.RoadKit.putFN X K.1 K.2.1 K.2.2.1 w via eT F E (Ly.imp id fun z => ⟨z.1, z.2.1, K.2.2.2.2.2.2.2.trans z.2.2⟩) wi hty hn hf (g := mkF m pc L (v :: .ref a :: S)) rfl rfl (hb K.2.2.2.1 hd)
    exact ⟨T', h', _, _, xs, X', eT', Nat.le_of_eq W.size.symm, Fr.snoc X' N ha, fun vm H => H.wr W hax, st, r h' W (F.same W) (E.wr W)⟩
theorem Go.new (K : Cx0 bytes maxL ret mn p meth c) (hq : pc + 3 = q) {C : String} {i k : Nat} {cells' slots' : Nat} (w : (Cond.classLink own i C).before a0 Z = true) (wi : (Cond.instantiable C k).before a0 Z = true) (wz : (Cond.initialized C).before a0 Z = true) (hd : decode bytes pc = .ok (.new i, 3)) (hc : cells + 1 = cells') (hs : slots + k = slots') (hc' : cells' ≤ R.cells) (hs' : slots' ≤ R.slots)
    (r : ∀ h' a, a = h.size → Ext h h' → Exa Z h' a C → (∀ {O nm d : String} {ty : FieldType}, Laid Z a0 C O nm d → parseFieldDescriptor d = some ty → Fld Z h' a O nm d (defaultValue ty)) → Go p l e R s m args below meth c Z own cl xs0 n0 kc ks Q (a :: xs) h' cells' slots' (mkF m q L (.ref a :: S))) : Go p l e R s m args below meth c Z own cl xs0 n0 kc ks Q xs h cells slots (mkF m pc L S) :=
  Go.of_heap (cells' := cells') (slots' := slots') K fun s' K T locs X eT N => by
    subst hq hc hs
    obtain ⟨T', h', X', eT', E, A, D, -, st⟩ := newO X K.1 K.2.1 K.2.2.1 w wi wz eT (g := mkF m pc L S) rfl (hb K.2.2.2.1 hd) hc' hs'
    exact ⟨T', h', _, _, h.size :: xs, X', eT', E.1, N, fun vm H => H.cons (Nat.le_refl _) E A.lt, st, r h' _ rfl E A D⟩
theorem Go.newarr (K : Cx0 bytes maxL ret mn p meth c) (hq : pc + 2 = q) {aty : ArrayType} {z : Int32} {cap cells' slots' : Nat} (w : (Cond.arrayClass (newarray.typeOf aty)).before a0 Z = true) (hd : decode bytes pc = .ok (.newarray aty, 2)) (hz : ¬ z < 0) (hcap : z.toNatClampNeg ≤ cap) (hb8 : cap * 8 ≤ 536870912) (hc : cells + 1 = cells') (hs : slots + cap = slots') (hc' : cells' ≤ R.cells) (hs' : slots' ≤ R.slots)
    (r : ∀ h' a k, a = h.size → Ext h h' → Arv Z h' a k (newarray.typeOf aty) z (List.replicate z.toNatClampNeg (defaultValue (newarray.typeOf aty))) (defaultValue (newarray.typeOf aty)) → Go p l e R s m args below meth c Z own cl xs0 n0 kc ks Q (a :: xs) h' cells' slots' (mkF m q L (.ref a :: S))) : Go p l e R s m args below meth c Z own cl xs0 n0 kc ks Q xs h cells slots (mkF m pc L (.int z :: S)) :=
  Go.of_heap (cells' := cells') (slots' := slots') K fun s' K T locs X eT N => by
    subst hq hc hs
    obtain ⟨T', h', cA, X', eT', E, A, st⟩ := newP X K.1 K.2.1 w eT (g := mkF m pc L (.int z :: S)) rfl (hb K.2.2.2.1 hd) rfl hz hcap hb8 hc' hs'
    exact ⟨T', h', _, _, h.size :: xs, X', eT', E.1, N, fun vm H => H.cons (Nat.le_refl _) E A.lt, st, r h' _ cA rfl E ((Arv.new A hz).pad fun i => by simpa using pad_rep [] (defaultValue (newarray.typeOf aty)) z.toNatClampNeg i)⟩
theorem Go.castore (K : Cx0 bytes maxL ret mn p meth c) (hq : pc + 1 = q) {a : Addr} {k : ClassId} {z j x : Int32} {vs : List Value} {dv : Value} (A : Arv Z h a k .char z vs dv) {i : Nat} (hd : decode bytes pc = .ok (.castore, 1)) (hj : ¬ j < 0 ∧ j < z) (hi : j.toNatClampNeg = i) (hl : i < vs.length) (ha : n0 ≤ a) (hax : a ∈ xs)
    (r : ∀ h', Wr h h' a i (.int (nar .char x)) → Arv Z h' a k .char z (vs.set i (.int (nar .char x))) dv → Go p l e R s m args below meth c Z own cl xs0 n0 kc ks Q xs h' cells slots (mkF m q L S)) : Go p l e R s m args below meth c Z own cl xs0 n0 kc ks Q xs h cells slots (mkF m pc L (.int x :: .int j :: .ref a :: S)) :=
  Go.of_heap (cells' := cells) (slots' := slots) K fun s' K T locs X eT N => by
    subst hq
    obtain ⟨ce, A1, A2, A3, A4, A5, A6⟩ := A
    obtain ⟨T', h', X', eT', W, st⟩ := stC X K.1 K.2.1 eT A1 (j := j) (x := x) (inb_of A3 hj) (g := mkF m pc L (.int x :: .int j :: .ref a :: S)) rfl rfl (hb K.2.2.2.1 hd)
    exact ⟨T', h', _, _, xs, X', eT', Nat.le_of_eq W.size.symm, Fr.snoc X' N ha, fun vm H => H.wr W hax, st, r h' (hi ▸ W) (Arv.set A1 A2 A3 A4 A5 A6 (fits_nar_char _) W i hi hl)⟩
theorem Go.bastore (K : Cx0 bytes maxL ret mn p meth c) (hq : pc + 1 = q) {a : Addr} {k : ClassId} {z j x : Int32} {vs : List Value} {dv : Value} (A : Arv Z h a k .byte z vs dv) {i : Nat} (hd : decode bytes pc = .ok (.bastore, 1)) (hj : ¬ j < 0 ∧ j < z) (hi : j.toNatClampNeg = i) (hl : i < vs.length) (ha : n0 ≤ a) (hax : a ∈ xs)
    (r : ∀ h', Wr h h' a i (.int (nar .byte x)) → Arv Z h' a k .byte z (vs.set i (.int (nar .byte x))) dv → Go p l e R s m args below meth c Z own cl xs0 n0 kc ks Q xs h' cells slots (mkF m q L S)) : Go p l e R s m args below meth c Z own cl xs0 n0 kc ks Q xs h cells slots (mkF m pc L (.int x :: .int j :: .ref a :: S)) :=
  Go.of_heap (cells' := cells) (slots' := slots) K fun s' K T locs X eT N => by
    subst hq
    obtain ⟨ce, A1, A2, A3, A4, A5, A6⟩ := A
    obtain ⟨T', h', X', eT', W, st⟩ := stB X K.1 K.2.1 eT A1 (j := j) (x := x) (inb_of A3 hj) (g := mkF m pc L (.int x :: .int j :: .ref a :: S)) rfl rfl (hb K.2.2.2.1 hd)
    exact ⟨T', h', _, _, xs, X', eT', Nat.le_of_eq W.size.symm, Fr.snoc X' N ha, fun vm H => H.wr W hax, st, r h' (hi ▸ W) (Arv.set A1 A2 A3 A4 A5 A6 (fits_nar_byte _) W i hi hl)⟩
/-- array.clone() -/
theorem Go.clone (K : Cx0 bytes maxL ret mn p meth c) (hq : pc + 3 = q) {ad : String} {i : Nat} (w1 : (Cond.methodLink own i ⟨ad, "clone", "()Ljava/lang/Object;"⟩).before a0 Z = true) (w2 : (Cond.sameMethod ad "java/lang/Object" "clone" "()Ljava/lang/Object;").before a0 Z = true) (w3 : (Cond.native ⟨"java/lang/Object", "clone", "()Ljava/lang/Object;"⟩).before a0 Z = true) (w4 : (Cond.instanceMethod ⟨"java/lang/Object", "clone", "()Ljava/lang/Object;"⟩).before a0 Z = true) (w5 : (Cond.selects ad ⟨ad, "clone", "()Ljava/lang/Object;"⟩ ⟨"java/lang/Object", "clone", "()Ljava/lang/Object;"⟩).before a0 Z = true) (w6 : (Cond.castable ad "java/lang/Cloneable").before a0 Z = true)
    {a : Addr} {k : ClassId} {ty : FieldType} {z : Int32} {vs : List Value} {dv : Value} (F : Arv Z h a k ty z vs dv) (E : Exa Z h a ad) (hd : decode bytes pc = .ok (.invokevirtual i, 3)) (hsz : L.size = maxL) (hf : 1 ≤ R.frames) {W cap cells' slots' : Nat} (hW : (S.map fun v => v.category).sum ≤ W) (hl : W + 14 ≤ R.locals) (hcap : z.toNatClampNeg ≤ cap) (hc : cells + 1 = cells') (hs : slots + cap = slots') (hc' : cells' ≤ R.cells) (hs' : slots' ≤ R.slots)
    (r : ∀ h' b, b = h.size → Ext h h' → Arv Z h' b k ty z vs dv → Exa Z h' b ad → Go p l e R s m args below meth c Z own cl xs0 n0 kc ks Q (b :: xs) h' cells' slots' (mkF m q L (.ref b :: S))) : Go p l e R s m args below meth c Z own cl xs0 n0 kc ks Q xs h cells slots (mkF m pc L (.ref a :: S)) :=
  Go.of_heap (cells' := cells') (slots' := slots') K fun s' K T locs X eT N => by
    subst hq hc hs
    obtain ⟨cl, A, q1, q2, q3, H, G⟩ := F
    have FC : FitC Z cl := fitC_of A fun i hi v hv => by rw [H i hi] at hv; cases hv; exact G i hi
    obtain ⟨T', h', X', e', ex, A', E', st⟩ := cloneA X K.1 K.2.1 K.2.2.1 w1 w2 w3 w4 w5 w6 eT A E FC (g := mkF m pc L (.ref a :: S)) rfl (hsz.trans K.2.2.2.2.1.symm) rfl (hb K.2.2.2.1 hd) hf (W := W) (by show 2 * 0 + _ ≤ _; omega) hl (by rw [q2]; exact hcap) hc' hs'
    exact ⟨T', h', _, _, h.size :: xs, X', e', ex.1, N, fun vm H' => H'.cons (Nat.le_refl _) ex E'.lt, st, r h' _ rfl ex ⟨_, A', q1, q2, q3, H, G⟩ E'⟩
/-- the walk's start moved up to the heap at hand: nothing written yet, nothing made yet, as much room as is left -/
theorem rebase {T : State} {locs : List Loc} (X : Stand p l e R s m args below meth c T locs cells slots) (hc : cells ≤ R.cells) (hs : slots ≤ R.slots) :
    Stand p l e { R with cells := R.cells - cells, slots := R.slots - slots } { s with heap := T.heap, slotsUsed := T.slotsUsed } m args below meth c T [] 0 0 := by
  have hF : ({ s with heap := T.heap, slotsUsed := T.slotsUsed } : State).frames = .invoking m args :: below := X.frames
  have hm' : ({ s with heap := T.heap, slotsUsed := T.slotsUsed } : State).vm.method? m = some meth := X.method
  have hU : ({ s with heap := T.heap, slotsUsed := T.slotsUsed } : State).localsInUse = s.localsInUse := by
    rw [State.localsInUse_invoking hF hm' X.code, State.localsInUse_invoking X.frames X.method X.code]
  have h1 := X.heapSize
  have h2 := X.used
  have hroom : ({ s with heap := T.heap, slotsUsed := T.slotsUsed } : State).hasRoom e.platform { R with cells := R.cells - cells, slots := R.slots - slots } = true := by
    have hr := X.room
    have hb := X.book
    simp only [State.hasRoom, Bool.and_eq_true, decide_eq_true_eq] at hr ⊢
    rw [hU]
    obtain ⟨⟨⟨⟨r1, r2⟩, r3⟩, r4⟩, r5⟩ := hr
    exact ⟨⟨⟨⟨r1, r2⟩, by show T.heap.size + (R.cells - cells) ≤ _; omega⟩, by show T.slotsUsed + (R.slots - slots) ≤ _; omega⟩, hb⟩
  have hears : ({ s with heap := T.heap, slotsUsed := T.slotsUsed } : State).hears m below = true := X.hears
  obtain ⟨q1, -⟩ := X.same
  refine ⟨X.admits, X.cas, X.clock, hF, hroom, hears, hm', X.code, X.here, X.tail, X.warmed, X.limits, X.bytes, ?_, Nat.le_refl _, Nat.le_refl _, ?_, ?_, fun a c' hc' => ⟨c', hc', rfl, rfl, fun _ _ => rfl⟩⟩
  · exact q1
  · show T.slotsUsed = T.slotsUsed + ((T.heap.toList.drop T.heap.size).map (·.slots.size)).sum
    rw [List.drop_eq_nil_of_le (by simp)]; simp
  · show ((T.heap.toList.drop T.heap.size).map (·.slots.size)).sum ≤ 0
    rw [List.drop_eq_nil_of_le (by simp)]; simp
theorem thread_of {fr : Frame} {r : List Frame} (h : s.frames = fr :: r) : ∃ t, s.threads[s.cur]? = some t := by
  cases q : s.threads[s.cur]? with
  | some t => exact ⟨t, rfl⟩
  | none => simp [State.frames, q] at h
/-- and back again -/
theorem unbase {T T' : State} {locs : List Loc} {vm' : Vm} {k n : Nat} {R' : Room} (X : Stand p l e R s m args below meth c T locs cells slots) (hW : s.Warmed39 vm') (hv : T'.vm = vm') (Y : Stand p l e R' (({ s with heap := T.heap, slotsUsed := T.slotsUsed } : State).setVm vm') m args below meth c T' [] k n) :
    Stand p l e R (s.setVm vm') m args below meth c T' locs (cells + k) (slots + n) := by
  have Xr := X.retabled hW
  have e1 : (s.setVm vm').sameButNew (({ s with heap := T.heap, slotsUsed := T.slotsUsed } : State).setVm vm') locs cells slots := by
    obtain ⟨t, ht⟩ := thread_of X.frames
    obtain ⟨-, q2, q3, q4, q5, q6⟩ := X.same
    refine ⟨?_, q2, q3, q4, q5, q6⟩
    show (({ s with heap := T.heap, slotsUsed := T.slotsUsed } : State).setVm vm') = ({ (s.setVm vm').setFrames (s.setVm vm').frames with heap := T.heap, slotsUsed := T.slotsUsed } : State)
    rw [State.setFrames_self (s := s.setVm vm') ht]
    rfl
  have e2 := e1.trans Y.same
  rw [List.append_nil] at e2
  exact ⟨Xr.admits, Xr.cas, Xr.clock, Xr.frames, Xr.room, Xr.hears, Xr.method, Xr.code, Y.here, Y.tail, by rw [hv]; exact State.WarmedH.refl (s.setVm vm'), Y.limits, Y.bytes, e2⟩
/-- ldc of an entry that is resolved -/
theorem ldc_res {T : State} {locs : List Loc} {vm0 : Vm} {i n : Nat} {a : Addr} {text : String} {units : Array UInt16} (X : Stand p l e R (s.setVm vm0) m args below meth c T locs cells slots) (hx : p.tables.exec = Jvm.exec) (hZ : Z.Warmed39 vm0) (ho : vm0.findClass own = some m.cls) (w : (Cond.stringLink own i text).before a0 Z = true) {k : Class} (hkk : vm0.classes[m.cls]? = some k) (h0 : k.resolved[i]? = some (some (.string a))) (hd : decode c.code pc = .ok (.ldc i, 2)) (hl : Lt Z T.heap xs a units) (H : Lits Z cl xs vm0 T.heap) :
    ∃ (a : Addr) (T' : State), Stand p l e R (s.setVm T'.vm) m args below meth c T' locs (cells + 2) (slots + (n + 4)) ∧ (s.setVm vm0).Since T'.vm T'.heap.size ∧ Ext T.heap T'.heap ∧ Lt Z T'.heap xs a units ∧ Lits Z cl xs T'.vm T'.heap ∧ ∀ t, Steps p.tables e below (T'.setTop (mkF m (pc + 2) L (.ref a :: S))) t → Steps p.tables e below (T.setTop (mkF m pc L S)) t := by
  have hlit : RoadKit.Lit (s.setVm vm0) own i a := by simp [RoadKit.Lit, State.resolvedAt?, State.setVm, ho, hkk, h0]
  exact ⟨a, T, (X.mono (Nat.le_add_right _ _) (Nat.le_add_right _ _)).retabled X.warmed.wide, X.warmed.since _, ⟨Nat.le_refl _, fun _ _ q => q⟩, hl, H.step (s := s.setVm vm0) rfl X.warmed.wide (Or.inl X.warmed.interned_eq), ldcAgain X hx hZ ho w hlit (g := mkF m pc L S) rfl hd⟩
/-- ldc of an entry that is open, its text interned -/
theorem ldc_found {T : State} {locs : List Loc} {vm0 : Vm} {i j n : Nat} {a : Addr} {text : String} {units : Array UInt16} (X : Stand p l e R (s.setVm vm0) m args below meth c T locs cells slots) (hx : p.tables.exec = Jvm.exec) {k : Class} {cf : ClassFile} (hkk : vm0.classes[m.cls]? = some k) (hcf : k.cf = some cf) (hcp : cf.constantPool[i]? = some (.string j)) (hu : cf.constantPool[j]? = some (.utf8 units)) (hnm : namesOf? cf.constantPool i = some (.string text)) (h0 : k.resolved[i]? = some none) (hf : vm0.interned.find? (fun p => p.1 == units) = some (units, a)) (hd : decode c.code pc = .ok (.ldc i, 2)) (hl : Lt Z T.heap xs a units) (H : Lits Z cl xs vm0 T.heap) :
    ∃ (a : Addr) (T' : State), Stand p l e R (s.setVm T'.vm) m args below meth c T' locs (cells + 2) (slots + (n + 4)) ∧ (s.setVm vm0).Since T'.vm T'.heap.size ∧ Ext T.heap T'.heap ∧ Lt Z T'.heap xs a units ∧ Lits Z cl xs T'.vm T'.heap ∧ ∀ t, Steps p.tables e below (T'.setTop (mkF m (pc + 2) L (.ref a :: S))) t → Steps p.tables e below (T.setTop (mkF m pc L S)) t := by
  obtain ⟨k', hk', ek, -, hent, -⟩ := X.warmed.2.2 m.cls k hkk
  have hcf' : k'.cf = some cf := by rw [ek]; exact hcf
  have hif : T.vm.interned.find? (fun p => p.1 == units) = some (units, a) := by rw [X.warmed.interned_eq]; exact hf
  rcases hent i with e0 | ⟨-, r, -, hr⟩
  · have hop : k'.resolved[i]? = some none := e0.trans h0
    have hW : (s.setVm vm0).Warmed39 (T.vm.noted m.cls i (.string a)) := X.warmed.wide.notedString (s := s.setVm vm0) hkk (Or.inl h0) (by rw [hcf]; exact hnm) (by rw [hcf]; exact hcp) (by rw [hcf]; simp [ConstantPool.utf8?, hu]) hif
    have hni : (T.vm.noted m.cls i (.string a)).interned = vm0.interned := X.warmed.interned_eq
    refine ⟨a, T.setVm (T.vm.noted m.cls i (.string a)), (X.mono (Nat.le_add_right _ _) (Nat.le_add_right _ _)).retabled hW, ⟨hW, fun q pr hq hp => ?_⟩, ⟨Nat.le_refl _, fun _ _ q => q⟩, hl, H.step (s := s.setVm vm0) rfl hW (Or.inl hni), fun t hrest => ?_⟩
    · have hp' : (T.vm.noted m.cls i (.string a)).interned[q]? = some pr := hp
      rw [hni] at hp'
      exact absurd (Array.getElem?_eq_some_iff.mp hp').1 (Nat.not_lt.mpr hq)
    · show Steps p.tables e below (T.setTop { method := m, pc := pc, locals := L, stack := S, locked := none }) t
      jvm_step X.here [hx, hd, ldc.wp_string_found (e := e) (s := T) (f := mkF m pc L S) X.here.top hk' hcf' hcp hu hop hif]
      exact hrest
  · exfalso
    cases r <;> simp [State.rightAt, State.setVm, hkk, hcf, hnm] at hr
theorem atoms_at {s' : State} (hZ : Z.Warmed39 s'.vm) (wS : ∀ a ∈ Bundle.stringAtoms, a.before a0 Z = true) : ∀ a ∈ Bundle.stringAtoms, a.before args s' = true := fun d hd => by
  have z := wS d hd
  simp only [Bundle.stringAtoms, List.mem_cons, List.not_mem_nil, or_false] at hd
  rcases hd with rfl | rfl | rfl | rfl | rfl | rfl | rfl
  · exact mv hZ z
  · exact mv hZ z
  · exact mvA hZ z
  · exact mv hZ z
  · exact mv hZ z
  · exact mv hZ z
  · exact mv hZ z
/-- ldc of an entry that is open, its text not yet interned -/
theorem ldc_new {T : State} {locs : List Loc} {vm0 : Vm} {i j n : Nat} {text : String} {units : Array UInt16} (X : Stand p l e R (s.setVm vm0) m args below meth c T locs cells slots) (hx : p.tables.exec = Jvm.exec) (ho : vm0.findClass own = some m.cls) (w : (Cond.stringLink own i text).before a0 Z = true) (wS : ∀ a ∈ Bundle.stringAtoms, a.before a0 Z = true) {k : Class} {cf : ClassFile} (hkk : vm0.classes[m.cls]? = some k) (hcf : k.cf = some cf) (hcp : cf.constantPool[i]? = some (.string j)) (hu : cf.constantPool[j]? = some (.utf8 units)) (hdec : utf16ToString? units = some text) (h0 : k.resolved[i]? = some none) (hf : vm0.interned.find? (fun p => p.1 == units) = none) (hd : decode c.code pc = .ok (.ldc i, 2)) (hn : 4 * text.toList.length ≤ n) (hbig : n ≤ 536870912) (hc' : cells + 2 ≤ R.cells) (hs' : slots + (n + 4) ≤ R.slots) (H : Lits Z cl xs vm0 T.heap) (hZ : Z.Warmed39 vm0) (hlat : ∀ c ∈ text.toList, c.toNat < 256) :
    ∃ (a : Addr) (T' : State), Stand p l e R (s.setVm T'.vm) m args below meth c T' locs (cells + 2) (slots + (n + 4)) ∧ (s.setVm vm0).Since T'.vm T'.heap.size ∧ Ext T.heap T'.heap ∧ Lt Z T'.heap xs a units ∧ Lits Z cl xs T'.vm T'.heap ∧ ∀ t, Steps p.tables e below (T'.setTop (mkF m (pc + 2) L (.ref a :: S))) t → Steps p.tables e below (T.setTop (mkF m pc L S)) t := by
  have held : ConstHeldL ({ s.setVm vm0 with heap := T.heap, slotsUsed := T.slotsUsed } : State) own i := fun c' k' cf' j' us' b q1 q2 q3 q4 q5 q6 => by
    cases (show vm0.findClass own = some c' from q1).symm.trans ho
    cases (show vm0.classes[m.cls]? = some k' from q2).symm.trans hkk
    cases hcf.symm.trans q3
    cases hcp.symm.trans q4
    cases hu.symm.trans q5
    rcases q6 with q6 | ⟨-, q6⟩
    · cases h0.symm.trans q6
    · cases hf.symm.trans q6
  have Y := rebase X (by omega) (by omega)
  obtain ⟨a, T', Y', hS', ⟨kk, hkk', hrr⟩, hb, -, hint, ⟨us, hus, q, cS, hqa, hsl, hkS, hB, hbyt, hloc⟩, st⟩ := Y.ldcColdF (fun b ce hbc => hbc) hx (own := own) ho (mvS (s := { s with heap := T.heap, slotsUsed := T.slotsUsed }) hZ w) (atoms_at hZ wS) held (fun us hu' => Jvm.ClassFile.lat_of_text hu' hlat) (g := mkF m pc L S) rfl hd hn hbig (by show 0 + 2 ≤ R.cells - cells; omega) (by show 0 + (n + 4) ≤ R.slots - slots; omega)
  simp only [Nat.zero_add] at Y'
  have hW : (s.setVm vm0).Warmed39 T'.vm := State.Warmed39.of_rootvm rfl hS'.1
  have E : Ext T.heap T'.heap := ext_of hb
  have hTi : T.vm.interned = vm0.interned := X.warmed.interned_eq
  have hbk : (s.setVm vm0).Since T'.vm T'.heap.size := ⟨hW, fun jj pr hj hp => by
    obtain ⟨z1, z2⟩ := hS'.2 jj pr hj hp
    exact ⟨Nat.le_trans X.same.2.1 z1, z2⟩⟩
  have hlu := Jvm.ClassFile.lat_of_text hus hlat
  have hueq : us = units := by
    have z := (Jvm.ClassFile.units_of_text hus hlat).trans (Jvm.ClassFile.units_of_text hdec hlat).symm
    exact Array.toList_inj.mp z
  subst hueq
  subst hqa
  -- the pair that the intern table has won is this very text's, at this very object
  have hpush : T'.vm.interned = vm0.interned.push (us, q.sa) := by
    have hfd : T'.vm.interned.find? (fun p => p.1 == us) = some (us, q.sa) := by
      obtain ⟨k2, e1, e2, e3, e4, -⟩ := hW.2.2.2 m.cls k hkk
      cases e1.symm.trans hkk'
      rcases e4 i with e0 | ⟨-, r, e5, hr | ⟨a', tx, si, us', rfl, -, q3, q4, q5⟩⟩
      · cases (e0.symm.trans hrr).symm.trans h0
      · cases e5.symm.trans hrr
        simp [State.rightAt, State.setVm, hkk, hcf] at hr
      · cases e5.symm.trans hrr
        rw [hcf] at q3 q4
        have e7 : si = j := by have z := q3.symm.trans hcp; simpa using z
        subst e7
        have e8 : us' = us := by simpa [ConstantPool.utf8?, hu] using q4.symm
        subst e8
        exact q5
    rcases hint with hint | ⟨u2, a2, -, hint⟩
    · rw [hint, hTi, hf] at hfd; cases hfd
    · rw [hint, hTi, Array.find?_push, hf] at hfd
      simp only [Option.none_or] at hfd
      split at hfd
      · cases hfd; rw [hint, hTi]
      · cases hfd
  have hge : T.heap.size ≤ q.sa := by
    have z := hS'.2 vm0.interned.size (us, q.sa) (Nat.le_refl _) (by rw [hpush]; simp)
    exact z.1
  have hge2 : T.heap.size ≤ q.sd := by
    rcases hloc with ⟨z1, -⟩ | ⟨-, z2⟩
    · exact absurd hge (Nat.not_le.mpr z1)
    · exact z2
  have hl : Lt Z T'.heap xs q.sa us := lt_core (hZ.alike.trans hW.alike) hlu hsl hkS hB hbyt (fun z => absurd hge (Nat.not_le.mpr (H.1 _ z))) (fun z => absurd hge2 (Nat.not_le.mpr (H.1 _ z)))
  exact ⟨q.sa, T', unbase (s := s.setVm vm0) X hW rfl Y', hbk, E, hl, (H.ext E).step (s := s.setVm vm0) rfl hW (Or.inr ⟨us, q.sa, hpush, hl⟩), st⟩
/-- ldc of a String constant -/
theorem Go.ldcS (K : Cx0 bytes maxL ret mn p meth c) (hq : pc + 2 = q) {text : String} {i : Nat} (hin : (own, i) ∈ cl) (w : (Cond.stringLink own i text).before a0 Z = true) (wS : ∀ a ∈ Bundle.stringAtoms, a.before a0 Z = true) (hlat : ∀ c ∈ text.toList, c.toNat < 256) (hd : decode bytes pc = .ok (.ldc i, 2)) {n cells' slots' : Nat} (hn : 4 * text.toList.length ≤ n) (hbig : n ≤ 536870912) (hc : cells + 2 = cells') (hs : slots + (n + 4) = slots') (hc' : cells' ≤ R.cells) (hs' : slots' ≤ R.slots)
    (r : ∀ h' a, Ext h h' → (∃ units : Array UInt16, utf16ToString? units = some text ∧ Lt Z h' xs a units) → Go p l e R s m args below meth c Z own cl xs0 n0 kc ks Q xs h' cells' slots' (mkF m q L (.ref a :: S))) : Go p l e R s m args below meth c Z own cl xs0 n0 kc ks Q xs h cells slots (mkF m pc L S) := fun T locs vm0 k0 X hS hk hZ ho eT N H => by
  subst hq hc hs
  have wl : (Cond.stringLink own i text).before args (s.setVm vm0) = true := mvS hZ w
  obtain ⟨k, cf, j, units, hkk, hcf, hcp, hu, hnm, hdec, hres⟩ := Cond.stringLink_spec (s := s.setVm vm0) ho wl
  have hlt := Jvm.ClassFile.lat_of_text hdec hlat
  -- the step, in each of the three ways that the tables can stand
  have key : ∃ (a : Addr) (T' : State), Stand p l e R (s.setVm T'.vm) m args below meth c T' locs (cells + 2) (slots + (n + 4)) ∧ (s.setVm vm0).Since T'.vm T'.heap.size ∧ Ext T.heap T'.heap ∧ Lt Z T'.heap xs a units ∧ Lits Z cl xs T'.vm T'.heap ∧ ∀ t, Steps p.tables e below (T'.setTop (mkF m (pc + 2) L (.ref a :: S))) t → Steps p.tables e below (T.setTop (mkF m pc L S)) t := by
    have hTh : Lits Z cl xs vm0 T.heap := by rw [eT]; exact H
    rcases hres with h0 | ⟨a, h0⟩
    · cases hf : vm0.interned.find? (fun p => p.1 == units) with
      | some pr =>
        obtain ⟨u', a⟩ := pr
        have hu' : u' = units := by have z := Array.find?_some hf; simpa using z
        subst hu'
        have hlt := hTh.2 _ hin _ k cf j u' a ho hkk hcf hcp hu (Or.inr ⟨h0, hf⟩)
        exact ldc_found X K.1 hkk hcf hcp hu hnm h0 hf (hb K.2.1 hd) hlt hTh
      | none =>
        exact ldc_new X K.1 ho w wS hkk hcf hcp hu hdec h0 hf (hb K.2.1 hd) hn hbig hc' hs' hTh hZ hlat
    · have hlt := hTh.2 _ hin _ k cf j units a ho hkk hcf hcp hu (Or.inl h0)
      exact ldc_res X K.1 hZ ho w hkk h0 (hb K.2.1 hd) hlt hTh
  obtain ⟨a, T', X', hS', E, hl, H', st⟩ := key
  subst eT
  obtain ⟨s₂, o, a1, a2⟩ := r T'.heap a E ⟨units, hdec, hl⟩ T' locs T'.vm _ X' (hS.trans hS' (Nat.le_trans hk E.1)) (Nat.le_refl _) (State.Warmed39.trans (t := s.setVm vm0) hZ hS'.1) (by rw [hS'.1.alike.findClass]; exact ho) rfl N H'
  exact ⟨s₂, o, st _ a1, a2⟩
/-- ldc of a String constant of which nothing is known but that it is there -/
theorem Go.ldcU (K : Cx0 bytes maxL ret mn p meth c) (hq : pc + 2 = q) {text : String} {i : Nat} (hcl : cl = []) (w : (Cond.stringLink own i text).before a0 Z = true) (wS : ∀ a ∈ Bundle.stringAtoms, a.before a0 Z = true) (hd : decode bytes pc = .ok (.ldc i, 2)) {n cells' slots' : Nat} (hn : 4 * text.toList.length ≤ n) (hbig : n ≤ 536870912) (hc : cells + 2 = cells') (hs : slots + (n + 4) = slots') (hc' : cells' ≤ R.cells) (hs' : slots' ≤ R.slots)
    (r : ∀ h' a, Ext h h' → Go p l e R s m args below meth c Z own cl xs0 n0 kc ks Q xs h' cells' slots' (mkF m q L (.ref a :: S))) : Go p l e R s m args below meth c Z own cl xs0 n0 kc ks Q xs h cells slots (mkF m pc L S) := fun T locs vm0 k0 X hS hk hZ ho eT N H => by
  subst hq hc hs
  obtain ⟨a, T', h', k1, X', eT', E, hS', hk', hZ', ho', st⟩ := Jvm.RoadKit.ldcS X K.1 hZ ho w wS eT hS hk (g := mkF m pc L S) rfl (hb K.2.1 hd) hn hbig hc' hs'
  obtain ⟨s₂, o, a1, a2⟩ := r h' a E T' locs T'.vm k1 X' hS' hk' hZ' ho' eT' N ⟨fun x hx => Nat.lt_of_lt_of_le (H.1 x hx) E.1, fun q hq => by subst hcl; cases hq⟩
  exact ⟨s₂, o, st _ a1, a2⟩
/-! calls -/
abbrev PreB (R : Room) (as' : Array Value) (h : Heap) (dc ds : Nat) : Pt → Array Value → Prop := fun A a => a = as' ∧ A.U.heap = h ∧ A.cells + dc ≤ R.cells ∧ A.slots + ds ≤ R.slots
abbrev PostB (QQ : Option Value → Heap → List Loc → Prop) (dc ds : Nat) : Pt → Array Value → Option Value → Pt → Prop := fun A _ v B => ∃ L, QQ v B.U.heap L ∧ B.locs = A.locs ++ L ∧ B.cells = A.cells + dc ∧ B.slots = A.slots + ds
theorem Go.bS (K : Cx0 bytes maxL ret mn p meth c) (hq : pc + 3 = q) {i : Nat} {y : MethodName} {bytes' : ByteArray} {maxL' : Nat} {ret' : Option FieldType} (w1 : (Cond.methodLink own i y).before a0 Z = true) (w2 : (Cond.static y).before a0 Z = true) (w3 : (Cond.initialized y.cls).before a0 Z = true) (w4 : (Cond.code y bytes' maxL' ret').before a0 Z = true) (hy : y.cls ≠ "java/lang/invoke/MethodHandle" ∧ y.cls ≠ "java/lang/invoke/VarHandle")
    {W dc ds cells' slots' : Nat} {as' : Array Value} {QQ : Option Value → Heap → List Loc → Prop} (B : ∀ s' : State, Z.Warmed39 s'.vm → Back l R p e below s' args y 3 W (PreB R as' h dc ds) (PostB QQ dc ds)) {sig : MethodDescriptor} (hsig : parseMethodDescriptor y.desc = some sig) {argsL rest : List Value} (has : as' = argsL.toArray) (hlen : argsL.length = sig.parameters.length) (hS : S = argsL.reverse ++ rest) (hsz : L.size = maxL) (hW : (rest.map fun v => v.category).sum ≤ W)
    (hd : decode bytes pc = .ok (.invokestatic i, 3)) (hc : cells + dc = cells') (hs : slots + ds = slots') (hc' : cells' ≤ R.cells) (hs' : slots' ≤ R.slots) (r : ∀ v h' L', QQ v h' L' → Fr n0 L' ∧ h.size ≤ h'.size ∧ ∃ xs', (∀ vm, Lits Z cl xs vm h → Lits Z cl xs' vm h') ∧ Go p l e R s m args below meth c Z own cl xs0 n0 kc ks Q xs' h' cells' slots' (mkF m q L (v.toList ++ rest))) : Go p l e R s m args below meth c Z own cl xs0 n0 kc ks Q xs h cells slots (mkF m pc L S) :=
  Go.of_heap (cells' := cells') (slots' := slots') K fun s' K T locs X eT N => by
    subst hq hc hs
    obtain ⟨v, vm₁, ⟨T', L', k', n'⟩, -, X', ⟨Lc, hQ, l1, l2, l3⟩, st⟩ := Jvm.LawKit.callS X K.1 (y := y) K.2.2.1 (mvT K.2.1 w1) (mvT K.2.1 w2) (mvT K.2.1 w3) (mvT K.2.1 w4) hy (B s' K.2.1) (g := mkF m pc L S) rfl (hsz.trans K.2.2.2.2.1.symm) (argsL := argsL) (rest := rest) (fun sg hg => by rw [hsig] at hg; cases hg; exact hlen) hS (by show 2 * 0 + _ ≤ _; omega) (hb K.2.2.2.1 hd) (fun _ _ => ⟨has.symm, eT, hc', hs'⟩)
    dsimp only [Pt.U, Pt.locs, Pt.cells, Pt.slots] at X' l1 l2 l3 st hQ
    subst l1 l2 l3
    obtain ⟨N', hsz', xs', HH, G⟩ := r v T'.heap Lc hQ
    exact ⟨T', T'.heap, _, _, xs', X', rfl, hsz', Fr.app N N', HH, st, G⟩
theorem Go.bI (K : Cx0 bytes maxL ret mn p meth c) (hq : pc + 3 = q) {i : Nat} {y : MethodName} {bytes' : ByteArray} {maxL' : Nat} (hyi : y.name = "<init>") (w1 : (Cond.methodLink own i y).before a0 Z = true) (w2 : (Cond.instanceMethod y).before a0 Z = true) (w4 : (Cond.code y bytes' maxL' none).before a0 Z = true) (hy : y.cls ≠ "java/lang/invoke/MethodHandle" ∧ y.cls ≠ "java/lang/invoke/VarHandle")
    {W dc ds cells' slots' : Nat} {as' : Array Value} {QQ : Option Value → Heap → List Loc → Prop} (B : ∀ s' : State, Z.Warmed39 s'.vm → Back l R p e below s' args y 3 W (PreB R as' h dc ds) (PostB QQ dc ds)) {sig : MethodDescriptor} (hsig : parseMethodDescriptor y.desc = some sig) {a : Addr} {argsL rest : List Value} (has : as' = (.ref a :: argsL).toArray) (hlen : argsL.length = sig.parameters.length) (hS : S = argsL.reverse ++ .ref a :: rest) (hsz : L.size = maxL) (hW : (rest.map fun v => v.category).sum ≤ W)
    (hd : decode bytes pc = .ok (.invokespecial i, 3)) (hc : cells + dc = cells') (hs : slots + ds = slots') (hc' : cells' ≤ R.cells) (hs' : slots' ≤ R.slots) (r : ∀ v h' L', QQ v h' L' → Fr n0 L' ∧ h.size ≤ h'.size ∧ ∃ xs', (∀ vm, Lits Z cl xs vm h → Lits Z cl xs' vm h') ∧ Go p l e R s m args below meth c Z own cl xs0 n0 kc ks Q xs' h' cells' slots' (mkF m q L (v.toList ++ rest))) : Go p l e R s m args below meth c Z own cl xs0 n0 kc ks Q xs h cells slots (mkF m pc L S) :=
  Go.of_heap (cells' := cells') (slots' := slots') K fun s' K T locs X eT N => by
    subst hq hc hs
    obtain ⟨v, vm₁, ⟨T', L', k', n'⟩, -, X', ⟨Lc, hQ, l1, l2, l3⟩, st⟩ := X.specialBack K.1 (y := y) hyi K.2.2.1 (mvT K.2.1 w1) (mvT K.2.1 w2) (mvT K.2.1 w4) hy (B s' K.2.1) (g := mkF m pc L S) rfl (hsz.trans K.2.2.2.2.1.symm) (Steps.refl _) (a := a) (argsL := argsL) (rest := rest) (fun sg hg => by rw [hsig] at hg; cases hg; exact hlen) hS (by show 2 * 0 + _ ≤ _; omega) (hb K.2.2.2.1 hd) (fun _ _ => ⟨has.symm, eT, hc', hs'⟩)
    dsimp only [Pt.U, Pt.locs, Pt.cells, Pt.slots] at X' l1 l2 l3 st hQ
    subst l1 l2 l3
    obtain ⟨N', hsz', xs', HH, G⟩ := r v T'.heap Lc hQ
    exact ⟨T', T'.heap, _, _, xs', X', rfl, hsz', Fr.app N N', HH, fun t k => st.trans k, G⟩
theorem Go.bV (K : Cx0 bytes maxL ret mn p meth c) (hq : pc + 3 = q) {i : Nat} {C : String} {y z : MethodName} (w1 : (Cond.methodLink own i y).before a0 Z = true) (w2 : (Cond.declares y).before a0 Z = true) (nf : ∀ s' : State, Z.Warmed39 s'.vm → NotFace s' y) (w3 : (Cond.selects C y z).before a0 Z = true) (w4 : (Cond.instanceMethod z).before a0 Z = true) (hy : y.cls ≠ "java/lang/invoke/MethodHandle" ∧ y.cls ≠ "java/lang/invoke/VarHandle")
    {W dc ds cells' slots' : Nat} {as' : Array Value} {QQ : Option Value → Heap → List Loc → Prop} (B : ∀ s' : State, Z.Warmed39 s'.vm → Back l R p e below s' args z 3 W (PreB R as' h dc ds) (PostB QQ dc ds)) {a : Addr} (E : Exa Z h a C) {sig : MethodDescriptor} (hsig : parseMethodDescriptor y.desc = some sig) {argsL rest : List Value} (has : as' = (.ref a :: argsL).toArray) (hlen : argsL.length = sig.parameters.length) (hS : S = argsL.reverse ++ .ref a :: rest) (hsz : L.size = maxL) (hW : (rest.map fun v => v.category).sum ≤ W)
    (hd : decode bytes pc = .ok (.invokevirtual i, 3)) (hc : cells + dc = cells') (hs : slots + ds = slots') (hc' : cells' ≤ R.cells) (hs' : slots' ≤ R.slots) (r : ∀ v h' L', QQ v h' L' → Fr n0 L' ∧ h.size ≤ h'.size ∧ ∃ xs', (∀ vm, Lits Z cl xs vm h → Lits Z cl xs' vm h') ∧ Go p l e R s m args below meth c Z own cl xs0 n0 kc ks Q xs' h' cells' slots' (mkF m q L (v.toList ++ rest))) : Go p l e R s m args below meth c Z own cl xs0 n0 kc ks Q xs h cells slots (mkF m pc L S) :=
  Go.of_heap (cells' := cells') (slots' := slots') K fun s' K T locs X eT N => by
    subst hq hc hs
    obtain ⟨cq, kq, qa, qb, qc⟩ := isOf K.2.1 eT E
    obtain ⟨v, vm₁, ⟨T', L', k', n'⟩, -, X', ⟨Lc, hQ, l1, l2, l3⟩, st⟩ := X.virtualBack K.1 (y := y) (z := z) K.2.2.1 (mvT K.2.1 w1) (mvT K.2.1 w2) (nf s' K.2.1) (mvT K.2.1 w3) (mvT K.2.1 w4) hy (B s' K.2.1) qa qc (g := mkF m pc L S) rfl (hsz.trans K.2.2.2.2.1.symm) (Steps.refl _) (argsL := argsL) (rest := rest) (fun sg hg => by rw [hsig] at hg; cases hg; exact hlen) hS (by show 2 * 0 + _ ≤ _; omega) (hb K.2.2.2.1 hd) (fun _ _ => ⟨has.symm, eT, hc', hs'⟩)
    dsimp only [Pt.U, Pt.locs, Pt.cells, Pt.slots] at X' l1 l2 l3 st hQ
    subst l1 l2 l3
    obtain ⟨N', hsz', xs', HH, G⟩ := r v T'.heap Lc hQ
    exact ⟨T', T'.heap, _, _, xs', X', rfl, hsz', Fr.app N N', HH, fun t k => st.trans k, G⟩
theorem nfS {C : String} {y : MethodName} (w3 : (Cond.selects C y y).before a0 Z = true) : ∀ s' : State, Z.Warmed39 s'.vm → NotFace s' y := fun s' hZ => notFace_of_selects (args := #[]) (mvT hZ w3)
theorem nfTop {y : MethodName} (w : (Cond.noSuperclass y.cls).before a0 Z = true) : ∀ s' : State, Z.Warmed39 s'.vm → NotFace s' y := fun s' hZ => nf_top (args := #[]) (mvT hZ w)
theorem nfSup {y : MethodName} {C : String} (w : (Cond.superclass y.cls C).before a0 Z = true) : ∀ s' : State, Z.Warmed39 s'.vm → NotFace s' y := fun s' hZ => nf_super (args := #[]) (mvT hZ w)
abbrev PreW (Z : State) (cl : List (String × Nat)) (xs : List Addr) (R : Room) (as' : Array Value) (h : Heap) (dc ds : Nat) : Pt → Array Value → Prop := fun A a => a = as' ∧ A.U.heap = h ∧ Lits Z cl xs A.U.vm h ∧ A.cells + dc ≤ R.cells ∧ A.slots + ds ≤ R.slots
abbrev PostW (Z : State) (cl : List (String × Nat)) (xs : List Addr) (n0 : Nat) (Q' : Option Value → Heap → Prop) (dc ds : Nat) : Pt → Array Value → Option Value → Pt → Prop := fun A _ v B => ∃ L, (Q' v B.U.heap ∧ Lits Z cl xs B.U.vm B.U.heap ∧ Fr n0 L) ∧ B.locs = A.locs ++ L ∧ B.cells = A.cells + dc ∧ B.slots = A.slots + ds
/-- a callee's contract as what pays a call -/
theorem Ctr.back {s' : State} (hZ : Z.Warmed39 s'.vm) {y : MethodName} {bytes' : ByteArray} {maxL' : Nat} {ret' : Option FieldType} {rm : Room} {as' : Array Value} {Q' : Option Value → Heap → Prop} {W : Nat} (C : Ctr l Z cl xs n0 y bytes' maxL' ret' [] rm as' h Q') (w4 : (Cond.code y bytes' maxL' ret').before a0 Z = true) (w3 : (Cond.initialized y.cls).before a0 Z = true) (hf : rm.frames + 1 ≤ R.frames) (hl : W + (maxL' + 11) + rm.locals ≤ R.locals) :
    BackS l R p e below s' args y 3 W (PreW Z cl xs R as' h rm.cells rm.slots) (PostW Z cl xs n0 Q' rm.cells rm.slots) :=
  BackS.of_freeW (bytes := bytes') (maxL := maxL') (ret := ret') (E := fun _ _ o t L k n => k = rm.cells ∧ n = rm.slots ∧ ∃ v, o = .returned v ∧ (Q' v t.heap ∧ Lits Z cl xs t.vm t.heap ∧ Fr n0 L)) C hf hl
    (fun m meth c A a Y hp => have hU : Z.Warmed39 A.U.vm := wtrans hZ Y.warmed
      ⟨by show (Cond.and _ .tt).before a A.U = true; rw [Cond.before_and, mv hU w4]; rfl, mv hU w4, mv hU w3, hp.2.2.2.1, hp.2.2.2.2⟩)
    (fun m meth c A a g mk Y hp => ⟨hp.1, wtrans hZ Y.warmed, hp.2.1, hp.2.2.1⟩) (fun _ _ _ _ _ _ _ _ _ => trivial)
    (fun _ _ _ _ ⟨v, L, h1, h2, h3⟩ => ⟨L, _, _, h3, rfl, rfl, v, h1, h2⟩)
    (fun m meth c A a g mk v t L k n Y hp _ _ ⟨e1, e2, v', e3, e4⟩ => by cases e3; subst e1 e2; exact ⟨L, e4, rfl, rfl, rfl⟩)
/-- behind a callee that may have loaded constants -/
theorem Go.behind {f f' : JFrame} {Q' : Option Value → Heap → Prop} {dc ds cells' slots' : Nat} {T : State} {locs : List Loc} {vm0 vm1 : Vm} {k0 : Nat} {B : Pt} {a : Array Value} {v : Option Value} (hk : k0 ≤ h.size) (eT : T.heap = h) (hSi : s.Since vm0 k0) (hZ : Z.Warmed39 vm0) (ho : vm0.findClass own = some m.cls) (N : Fr n0 locs) (hc : cells + dc = cells') (hs : slots + ds = slots')
    (X' : Stand p l e R ((s.setVm vm0).setVm B.U.vm) m args below meth c B.U B.locs B.cells B.slots) (hS' : (s.setVm vm0).Since B.U.vm B.U.heap.size) (hg : T.heap.size ≤ B.U.heap.size) (post : PostW Z cl xs n0 Q' dc ds ⟨T.setVm vm1, locs, cells, slots⟩ a v B) (st : Steps p.tables e below (T.setTop f) (B.U.setTop f')) (r : ∀ h', Q' v h' → h.size ≤ h'.size → Go p l e R s m args below meth c Z own cl xs0 n0 kc ks Q xs h' cells' slots' f') :
    ∃ s₂ o, Steps p.tables e below (T.setTop f) s₂ ∧ s₂.status = .running ∧ Ended s₂ below o ∧ ∃ v L, o = .returned v ∧ (Q v s₂.heap ∧ Lits Z cl xs0 s₂.vm s₂.heap ∧ Fr n0 L) ∧ ReturnedEndW s o s₂ L kc ks := by
  obtain ⟨B1, B2, B3, B4⟩ := B
  obtain ⟨Lc, ⟨hQ, HL, NL⟩, l1, l2, l3⟩ := post
  dsimp only [Pt.U, Pt.locs, Pt.cells, Pt.slots] at X' hS' hg l1 l2 l3 st hQ HL
  subst l1 l2 l3 hc hs
  obtain ⟨s₂, o, a1, a2⟩ := r B1.heap hQ (by rw [← eT]; exact hg) B1 _ B1.vm _ X' (hSi.trans hS' (Nat.le_trans hk (by rw [← eT]; exact hg))) (Nat.le_refl _) (State.Warmed39.trans (t := s.setVm vm0) hZ hS'.1) (by rw [hS'.1.alike.findClass]; exact ho) rfl (Fr.app N NL) HL
  exact ⟨s₂, o, st.trans a1, a2⟩
theorem Lits.warm {vm0 vm1 : Vm} (H : Lits Z cl xs vm0 h) (hW : (s.setVm vm0).WarmedH vm1) : Lits Z cl xs vm1 h := H.step (s := s.setVm vm0) rfl hW.wide (Or.inl hW.interned_eq)
/-- a static call by the callee's contract -/
theorem Go.cS (K : Cx0 bytes maxL ret mn p meth c) (hq : pc + 3 = q) {i : Nat} {y : MethodName} {bytes' : ByteArray} {maxL' : Nat} {ret' : Option FieldType} {rm : Room} {as' : Array Value} {Q' : Option Value → Heap → Prop} (C : Ctr l Z cl xs n0 y bytes' maxL' ret' [] rm as' h Q') (w1 : (Cond.methodLink own i y).before a0 Z = true) (w2 : (Cond.static y).before a0 Z = true) (w3 : (Cond.initialized y.cls).before a0 Z = true) (w4 : (Cond.code y bytes' maxL' ret').before a0 Z = true) (hy : y.cls ≠ "java/lang/invoke/MethodHandle" ∧ y.cls ≠ "java/lang/invoke/VarHandle")
    {sig : MethodDescriptor} (hsig : parseMethodDescriptor y.desc = some sig) {argsL rest : List Value} (has : as' = argsL.toArray) (hlen : argsL.length = sig.parameters.length) (hS : S = argsL.reverse ++ rest) (hsz : L.size = maxL) {W cells' slots' : Nat} (hW : (rest.map fun v => v.category).sum ≤ W) (hf : rm.frames + 1 ≤ R.frames) (hl : W + (maxL' + 11) + rm.locals ≤ R.locals)
    (hd : decode bytes pc = .ok (.invokestatic i, 3)) (hc : cells + rm.cells = cells') (hs : slots + rm.slots = slots') (hc' : cells' ≤ R.cells) (hs' : slots' ≤ R.slots) (r : ∀ v h', Q' v h' → h.size ≤ h'.size → Go p l e R s m args below meth c Z own cl xs0 n0 kc ks Q xs h' cells' slots' (mkF m q L (v.toList ++ rest))) : Go p l e R s m args below meth c Z own cl xs0 n0 kc ks Q xs h cells slots (mkF m pc L S) := fun T locs vm0 k0 X hSi hk hZ ho eT N H => by
  subst hq
  obtain ⟨v, vm₁, B, -, X', hS', hg, post, st⟩ := callSS X K.1 (y := y) ho (mvT hZ w1) (mvT hZ w2) (mvT hZ w3) (mvT hZ w4) hy (C.back (W := W) hZ w4 w3 hf hl) (g := mkF m pc L S) rfl (hsz.trans K.2.2.1.symm) (argsL := argsL) (rest := rest) (fun sg hg => by rw [hsig] at hg; cases hg; exact hlen) hS (by show 2 * 0 + _ ≤ _; omega) (hb K.2.1 hd) (fun vm₁ h₁ => ⟨has.symm, eT, H.warm h₁, by rw [hc]; exact hc', by rw [hs]; exact hs'⟩)
  exact Go.behind hk eT hSi hZ ho N hc hs X' hS' hg post st (r v)
/-- a constructor by its contract -/
theorem Go.cI (K : Cx0 bytes maxL ret mn p meth c) (hq : pc + 3 = q) {i : Nat} {y : MethodName} {bytes' : ByteArray} {maxL' : Nat} {rm : Room} {as' : Array Value} {Q' : Option Value → Heap → Prop} (C : Ctr l Z cl xs n0 y bytes' maxL' none [] rm as' h Q') (hyi : y.name = "<init>") (w1 : (Cond.methodLink own i y).before a0 Z = true) (w2 : (Cond.instanceMethod y).before a0 Z = true) (w3 : (Cond.initialized y.cls).before a0 Z = true) (w4 : (Cond.code y bytes' maxL' none).before a0 Z = true) (hy : y.cls ≠ "java/lang/invoke/MethodHandle" ∧ y.cls ≠ "java/lang/invoke/VarHandle")
    {sig : MethodDescriptor} (hsig : parseMethodDescriptor y.desc = some sig) {a : Addr} {argsL rest : List Value} (has : as' = (.ref a :: argsL).toArray) (hlen : argsL.length = sig.parameters.length) (hS : S = argsL.reverse ++ .ref a :: rest) (hsz : L.size = maxL) {W cells' slots' : Nat} (hW : (rest.map fun v => v.category).sum ≤ W) (hf : rm.frames + 1 ≤ R.frames) (hl : W + (maxL' + 11) + rm.locals ≤ R.locals)
    (hd : decode bytes pc = .ok (.invokespecial i, 3)) (hc : cells + rm.cells = cells') (hs : slots + rm.slots = slots') (hc' : cells' ≤ R.cells) (hs' : slots' ≤ R.slots) (r : ∀ v h', Q' v h' → h.size ≤ h'.size → Go p l e R s m args below meth c Z own cl xs0 n0 kc ks Q xs h' cells' slots' (mkF m q L (v.toList ++ rest))) : Go p l e R s m args below meth c Z own cl xs0 n0 kc ks Q xs h cells slots (mkF m pc L S) := fun T locs vm0 k0 X hSi hk hZ ho eT N H => by
  subst hq
  obtain ⟨v, vm₁, B, -, X', hS', hg, post, st⟩ := X.specialBackS K.1 (y := y) hyi ho (mvT hZ w1) (mvT hZ w2) (mvT hZ w4) hy (C.back (W := W) hZ w4 w3 hf hl) (g := mkF m pc L S) rfl (hsz.trans K.2.2.1.symm) (Steps.refl _) (a := a) (argsL := argsL) (rest := rest) (fun sg hg => by rw [hsig] at hg; cases hg; exact hlen) hS (by show 2 * 0 + _ ≤ _; omega) (hb K.2.1 hd) (fun vm₁ h₁ => ⟨has.symm, eT, H.warm h₁, by rw [hc]; exact hc', by rw [hs]; exact hs'⟩)
  exact Go.behind hk eT hSi hZ ho N hc hs X' hS' hg post st (r v)
/-- an instance method by its contract -/
theorem Go.cV (K : Cx0 bytes maxL ret mn p meth c) (hq : pc + 3 = q) {i : Nat} {C0 : String} {y z : MethodName} {bytes' : ByteArray} {maxL' : Nat} {ret' : Option FieldType} {rm : Room} {as' : Array Value} {Q' : Option Value → Heap → Prop} (C : Ctr l Z cl xs n0 z bytes' maxL' ret' [] rm as' h Q') (w1 : (Cond.methodLink own i y).before a0 Z = true) (w2 : (Cond.declares y).before a0 Z = true) (nf : ∀ s' : State, Z.Warmed39 s'.vm → NotFace s' y) (w3 : (Cond.selects C0 y z).before a0 Z = true) (w4 : (Cond.instanceMethod z).before a0 Z = true) (w5 : (Cond.initialized z.cls).before a0 Z = true) (w6 : (Cond.code z bytes' maxL' ret').before a0 Z = true) (hy : y.cls ≠ "java/lang/invoke/MethodHandle" ∧ y.cls ≠ "java/lang/invoke/VarHandle")
    {a : Addr} (E : Isa Z h a C0) {sig : MethodDescriptor} (hsig : parseMethodDescriptor y.desc = some sig) {argsL rest : List Value} (has : as' = (.ref a :: argsL).toArray) (hlen : argsL.length = sig.parameters.length) (hS : S = argsL.reverse ++ .ref a :: rest) (hsz : L.size = maxL) {W cells' slots' : Nat} (hW : (rest.map fun v => v.category).sum ≤ W) (hf : rm.frames + 1 ≤ R.frames) (hl : W + (maxL' + 11) + rm.locals ≤ R.locals)
    (hd : decode bytes pc = .ok (.invokevirtual i, 3)) (hc : cells + rm.cells = cells') (hs : slots + rm.slots = slots') (hc' : cells' ≤ R.cells) (hs' : slots' ≤ R.slots) (r : ∀ v h', Q' v h' → h.size ≤ h'.size → Go p l e R s m args below meth c Z own cl xs0 n0 kc ks Q xs h' cells' slots' (mkF m q L (v.toList ++ rest))) : Go p l e R s m args below meth c Z own cl xs0 n0 kc ks Q xs h cells slots (mkF m pc L S) := fun T locs vm0 k0 X hSi hk hZ ho eT N H => by
  subst hq
  obtain ⟨cq, kq, qa, qb, qc⟩ := isOf1 (s := s.setVm vm0) hZ eT E
  obtain ⟨v, vm₁, B, -, X', hS', hg, post, st⟩ := X.virtualBackS K.1 (y := y) (z := z) ho (mvT hZ w1) (mvT hZ w2) (nf (s.setVm vm0) hZ) (mvT hZ w3) (mvT hZ w4) hy (C.back (W := W) hZ w6 w5 hf hl) qa qc (g := mkF m pc L S) rfl (hsz.trans K.2.2.1.symm) (Steps.refl _) (argsL := argsL) (rest := rest) (fun sg hg => by rw [hsig] at hg; cases hg; exact hlen) hS (by show 2 * 0 + _ ≤ _; omega) (hb K.2.1 hd) (fun vm₁ h₁ => ⟨has.symm, eT, H.warm h₁, by rw [hc]; exact hc', by rw [hs]; exact hs'⟩)
  exact Go.behind hk eT hSi hZ ho N hc hs X' hS' hg post st (r v)
end Rules
theorem notsub {Z : State} {a0 : Array Value} {C S K : String} {n : Nat} (w : (Cond.superclass C S).before a0 Z = true) (wn : (Cond.noSuperclass S).before a0 Z = true) (wk : (Cond.instantiable K n).before a0 Z = true) (h1 : C ≠ K) (h2 : S ≠ K) : ∃ c t, Z.vm.findClass C = some c ∧ Z.vm.findClass K = some t ∧ Z.vm.assignable c t = false := by
  obtain ⟨t, kt, g1, g2, g3, g4, -⟩ := Cond.instantiable_spec wk
  obtain ⟨c0, k0, m1, m2, m3, -, -⟩ := Cond.noSuperclass_spec wn
  obtain ⟨c, h0⟩ := found_sup w
  obtain ⟨p, k, kp, s1, s2, s3, s4, s5, -, s7⟩ := Cond.superclass_spec h0 w
  cases m1.symm.trans s1
  have e1 := ids_ne h0 g1 h1
  have e2 := ids_ne m1 g1 h2
  have g5 : kt.isInterface = false := by cases q : kt.isInterface <;> simp_all
  have sub : ∀ fuel, Z.vm.isSubclassAux fuel c t = false := fun fuel => by
    cases fuel with
    | zero => rfl
    | succ f =>
      cases f with
      | zero => simp [Vm.isSubclassAux, e1, s2, s4]
      | succ f => simp [Vm.isSubclassAux, e1, s2, s4, e2, m2, m3]
  refine ⟨c, t, h0, g1, ?_⟩
  show Z.vm.assignableAux (255 + 1) c t = false
  simp [Vm.assignableAux, e1, s2, g2, s5, g3, g5, Vm.isSubclass, sub]
/-! what is carried -/
theorem Ext.refl (h : Heap) : Ext h h := ⟨Nat.le_refl _, fun _ _ q => q⟩
theorem Ext.trans {h0 h h' : Heap} (E : Ext h0 h) (E' : Ext h h') : Ext h0 h' := ⟨Nat.le_trans E.1 E'.1, fun a c q => E'.2 a c (E.2 a c q)⟩
theorem Ext.keep {h0 h h' : Heap} {ws : List Addr} (E : Ext h0 h) (K : Keep h h' ws) (q : ∀ x ∈ ws, h0.size ≤ x) : Ext h0 h' :=
  ⟨Nat.le_trans E.1 K.1, fun a c r => K.2.1 a c (E.2 a c r) fun z => absurd (Array.getElem?_eq_some_iff.mp r).1 (Nat.not_lt.mpr (q a z))⟩
theorem Ext.wr {h0 h h' : Heap} {a : Addr} {sl : Nat} {v : Value} (E : Ext h0 h) (W : Wr h h' a sl v) (q : h0.size ≤ a) : Ext h0 h' := Ext.keep E (Keep.of_wr W) (allS q all0)
theorem Ext.of_keep {h h' : Heap} (K : Keep h h' []) : Ext h h' := ⟨K.1, fun a c q => K.2.1 a c q nin0⟩
theorem Ext.sta {Z : State} {h h' : Heap} {C n d : String} {v : Value} (E : Ext h h') (F : Sta Z h C n d v) : Sta Z h' C n d v := F.ext E
end Jvm.Pilot.@@N@@.W
/- laws to paste: Road.backV, Road.eqW, Road.lenW, Road.chN, Road.codOf (cut by pick.py; bodies as the Statement names them) -/
namespace Jvm.Pilot.@@N@@
namespace StrChars
open Jvm Sem ClassFile Op Lib Jvm.Stand Jvm.Free.XT Jvm.Free.ALB Jvm.Free.JM Jvm.Free
open Jvm.Lib.Cold (StaticIs)
/-- a char array whose places are chars -/
def Ch (a : Addr) (A : Cell) (U : State) : Prop := Arr .char a A U ∧ Typed .char A
theorem Ch.mv {a : Addr} {A : Cell} {U U' : State} (h : Ch a A U) (hal : U.vm.Alike U'.vm) (hh : U'.heap = U.heap) : Ch a A U' := ⟨h.1.mv hal hh, h.2⟩
theorem Ch.keep {a : Addr} {A : Cell} {U U' : State} (h : Ch a A U) (hal : U.vm.Alike U'.vm) (hk : U'.heap[a]? = some A) : Ch a A U' := ⟨h.1.keep hal hk, h.2⟩
/-- what place i of a char[]'s cell holds -/
def cv (A : Cell) (i : Nat) : Int32 := match A.slots[i]? with | some (.int x) => x | _ => 0
theorem Ch.get {a : Addr} {A : Cell} {U : State} (h : Ch a A U) {i : Nat} (hi : i < A.slots.size) : A.slots[i]? = some (.int (cv A i)) := by
  have e := Array.getElem?_eq_getElem hi
  have f := h.2 i _ e
  unfold cv; rw [e]
  generalize A.slots[i] = v at f
  cases v <;> simp [fits] at f ⊢
/-- the byte that i2b leaves of a char -/
def lo8 (x : Int32) : Int32 := x.toInt8.toInt32
theorem fits_lo8 (y : Int32) : fits .byte (.int (lo8 y)) = true := by
  have h1 := y.toInt8.le_toInt
  have h2 := y.toInt8.toInt_lt
  simp only [lo8, fits, Bool.and_eq_true, decide_eq_true_eq, Int32.le_iff_toInt_le, Int8.toInt_toInt32, show (-128 : Int32).toInt = -128 from by decide, show (127 : Int32).toInt = 127 from by decide]
  omega
/-- A' is A but that each place j of lo .. hi - 1 holds f j -/
def Laid (A A' : Cell) (lo hi : Nat) (f : Nat → Value) : Prop := A'.cls = A.cls ∧ A'.vm = A.vm ∧ A'.slots.size = A.slots.size ∧ ∀ i, A'.slots[i]? = if lo ≤ i ∧ i < hi then some (f i) else A.slots[i]?
theorem Laid.zero (A : Cell) (lo : Nat) (f : Nat → Value) : Laid A A lo (lo + 0) f := ⟨rfl, rfl, rfl, fun i => by rw [if_neg (by omega)]⟩
theorem Laid.step {A Ak : Cell} {lo k : Nat} {f : Nat → Value} {v : Value} (h : Laid A Ak lo k f) (hlo : lo ≤ k) (hk : k < Ak.slots.size) (hv : v = f k) : Laid A (Ak.setSlot k v) lo (k + 1) f := by
  refine ⟨h.1, h.2.1, by simpa [Cell.setSlot] using h.2.2.1, fun i => ?_⟩
  by_cases e : k = i
  · subst e; rw [Cell.slots_setSlot_self v hk, if_pos (by omega), hv]
  · rw [Cell.slots_setSlot_ne v e, h.2.2.2 i]
    by_cases q : lo ≤ i ∧ i < k
    · rw [if_pos q, if_pos (by omega)]
    · rw [if_neg q, if_neg (by omega)]
def U16 : String := "java/lang/StringUTF16"
namespace Cmp5
def yN : MethodName := ⟨"java/lang/StringUTF16", "compress", "([CI[BII)I"⟩
abbrev yB : ByteArray := jdk_52_method_21_code
theorem d0 : decode yB 0 = .ok (.iconst 0, 1) := by decide +kernel
theorem d1 : decode yB 1 = .ok (.istore 5, 2) := by decide +kernel
theorem d3 : decode yB 3 = .ok (.iload 5, 2) := by decide +kernel
theorem d5 : decode yB 5 = .ok (.iload 4, 2) := by decide +kernel
theorem d7 : decode yB 7 = .ok (.if_icmp (.ge) 37, 3) := by decide +kernel
theorem d10 : decode yB 10 = .ok (.aload_n 0, 1) := by decide +kernel
theorem d11 : decode yB 11 = .ok (.iload_n 1, 1) := by decide +kernel
theorem d12 : decode yB 12 = .ok (.caload, 1) := by decide +kernel
theorem d13 : decode yB 13 = .ok (.istore 6, 2) := by decide +kernel
theorem d15 : decode yB 15 = .ok (.iload 6, 2) := by decide +kernel
theorem d17 : decode yB 17 = .ok (.sipush 255, 3) := by decide +kernel
theorem d20 : decode yB 20 = .ok (.if_icmp (.le) 6, 3) := by decide +kernel
theorem d26 : decode yB 26 = .ok (.aload_n 2, 1) := by decide +kernel
theorem d27 : decode yB 27 = .ok (.iload_n 3, 1) := by decide +kernel
theorem d28 : decode yB 28 = .ok (.iload 6, 2) := by decide +kernel
theorem d30 : decode yB 30 = .ok (.i2b, 1) := by decide +kernel
theorem d31 : decode yB 31 = .ok (.bastore, 1) := by decide +kernel
theorem d32 : decode yB 32 = .ok (.iinc 1 1, 3) := by decide +kernel
theorem d35 : decode yB 35 = .ok (.iinc 3 1, 3) := by decide +kernel
theorem d38 : decode yB 38 = .ok (.iinc 5 1, 3) := by decide +kernel
theorem d41 : decode yB 41 = .ok (.goto (-38), 3) := by decide +kernel
theorem d44 : decode yB 44 = .ok (.iload 4, 2) := by decide +kernel
theorem d46 : decode yB 46 = .ok (.ireturn, 1) := by decide +kernel
def site : List Cond := []
def tab : Cond := tabOf yN yB 7 (some .int) site
def P (b : Addr) (A : Cell) (d : Addr) (B : Cell) (o q len : Nat) (args : Array Value) (s : State) : Prop := args = #[.ref b, .int (Int32.ofNat o), .ref d, .int (Int32.ofNat q), .int (Int32.ofNat len)] ∧ Ch b A s ∧ Arr .byte d B s ∧ b ≠ d ∧ o + len ≤ A.slots.size ∧ q + len ≤ B.slots.size ∧ ∀ i, i < len → ¬ 255 < cv A (o + i)
def E (b : Addr) (A : Cell) (d : Addr) (B : Cell) (o q len : Nat) (r : Option Value) (s u : State) : Prop := r = some (.int (Int32.ofNat len)) ∧ ∃ B', Put d B' s u ∧ Laid B B' q (q + len) (fun j => Value.int (lo8 (cv A (o + (j - q)))))
/-- no char of the range above 255: len; the places written hold each char's low byte -/
theorem law (l : Launch) (b : Addr) (A : Cell) (d : Addr) (B : Cell) (o q len : Nat) : Law l yN 5 5 0 0 yB 7 (some .int) site (P b A d B o q len) (E b A d B o q len) (copyLocs d q len) 0 0 := by
  refine Law.of_walk (plainFor_of_name (by decide +kernel)) (by decide +kernel) (by decide +kernel) (by decide) (fun _ _ h => by rw [h.1]; rfl) (fun _ U U' hal hh h => ⟨h.1, h.2.1.mv hal hh, h.2.2.1.mv hal hh, h.2.2.2⟩) (fun r U U' V V' h1 hal h2 h => ⟨h.1, h.2.elim fun B' q => ⟨B', q.1.mv h1 h2, q.2⟩⟩) ?_
  intro p e s m args below meth c s₁ X0 hexec hbytes hml hret hlk hnm hown hh0 W hP
  obtain ⟨rfl, hA, hB, hne, l1, l2, hp⟩ := hP
  have c1 : Steps p.tables e below (s₁.setTop (entryFrame m #[.ref b, .int (Int32.ofNat o), .ref d, .int (Int32.ofNat q), .int (Int32.ofNat len)] 7)) (s₁.setTop (mkF m 0 #[.val (.ref b), .val (.int (Int32.ofNat o)), .val (.ref d), .val (.int (Int32.ofNat q)), .val (.int (Int32.ofNat len)), .unset, .unset] [])) := entry rfl
  have hA0 := hA.1.mv X0.warmed.alike hh0
  have hB0 := hB.mv X0.warmed.alike hh0
  have a31 := hA.1.2.2.2
  have c2 : Steps p.tables e below (s₁.setTop (entryFrame m #[.ref b, .int (Int32.ofNat o), .ref d, .int (Int32.ofNat q), .int (Int32.ofNat len)] 7)) (s₁.setTop (mkF m 3 #[.val (.ref b), .val (.int (Int32.ofNat o)), .val (.ref d), .val (.int (Int32.ofNat q)), .val (.int (Int32.ofNat len)), .val (.int 0), .unset] [])) := c1.trans (by
    refine iconstV X0.here hexec rfl 0 (hb hbytes d0) (by decide) ?_
    refine XS.istore X0.here hexec rfl (hb hbytes d1) rfl rfl ?_
    exact Steps.refl _)
  have loop : ∀ (r i : Nat), i + r = len → ∀ (z : Slot), (z = .unset ∨ ∃ w, z = .val w ∧ w.category = 1) → ∀ (Tl : State) (Bk : Cell), Stand p l e { frames := 0, locals := 0, cells := 0, slots := 0 } s m #[.ref b, .int (Int32.ofNat o), .ref d, .int (Int32.ofNat q), .int (Int32.ofNat len)] below meth c Tl ([] ++ copyLocs d q i) 0 0 → Put d Bk s₁ Tl → Laid B Bk q (q + i) (fun j => Value.int (lo8 (cv A (o + (j - q))))) →
      Steps p.tables e below (s₁.setTop (entryFrame m #[.ref b, .int (Int32.ofNat o), .ref d, .int (Int32.ofNat q), .int (Int32.ofNat len)] 7)) (Tl.setTop (mkF m 3 #[.val (.ref b), .val (.int (Int32.ofNat (o + i))), .val (.ref d), .val (.int (Int32.ofNat (q + i))), .val (.int (Int32.ofNat len)), .val (.int (Int32.ofNat i)), z] [])) → ∃ (T' : State) (B' : Cell) (z' : Slot), Stand p l e { frames := 0, locals := 0, cells := 0, slots := 0 } s m #[.ref b, .int (Int32.ofNat o), .ref d, .int (Int32.ofNat q), .int (Int32.ofNat len)] below meth c T' ([] ++ copyLocs d q len) 0 0 ∧ Put d B' s₁ T' ∧ Laid B B' q (q + len) (fun j => Value.int (lo8 (cv A (o + (j - q))))) ∧
      Steps p.tables e below (s₁.setTop (entryFrame m #[.ref b, .int (Int32.ofNat o), .ref d, .int (Int32.ofNat q), .int (Int32.ofNat len)] 7)) (T'.setTop (mkF m 3 #[.val (.ref b), .val (.int (Int32.ofNat (o + len))), .val (.ref d), .val (.int (Int32.ofNat (q + len))), .val (.int (Int32.ofNat len)), .val (.int (Int32.ofNat len)), z'] [])) := by
    intro r
    induction r with
    | zero =>
      intro i hi z hz Tl Bk Xl pl fl cl
      have hil : i = len := by omega
      rw [hil] at Xl fl cl
      exact ⟨Tl, Bk, z, Xl, pl, fl, cl⟩
    | succ r ih =>
      intro i hi z hz Tl Bk Xl pl fl cl
      have all := X0.warmed.alike.symm.trans Xl.warmed.alike
      have hAl := hA0.keep all (pl.other hne hA0.1)
      have hBk := hB0.like all pl.1 fl.1 fl.2.1 fl.2.2.1
      have hlt : q + i < Bk.slots.size := by rw [fl.2.2.1]; omega
      have c3 : Steps p.tables e below (s₁.setTop (entryFrame m #[.ref b, .int (Int32.ofNat o), .ref d, .int (Int32.ofNat q), .int (Int32.ofNat len)] 7)) (Tl.setTop (mkF m 12 #[.val (.ref b), .val (.int (Int32.ofNat (o + i))), .val (.ref d), .val (.int (Int32.ofNat (q + i))), .val (.int (Int32.ofNat len)), .val (.int (Int32.ofNat i)), z] [.int (Int32.ofNat (o + i)), .ref b])) := cl.trans (by
        refine XS.iload Xl.here hexec rfl (hb hbytes d3) rfl ?_
        refine XS.iload Xl.here hexec rfl (hb hbytes d5) rfl ?_
        refine XS.icmpNo Xl.here hexec rfl (hb hbytes d7) rfl (ii_ge_f (lt32 (by omega) (by omega))) ?_
        refine XS.aloadN Xl.here hexec rfl (hb hbytes d10) rfl rfl ?_
        refine XS.iloadN Xl.here hexec rfl (hb hbytes d11) rfl ?_
        exact Steps.refl _)
      have c4 : Steps p.tables e below (s₁.setTop (entryFrame m #[.ref b, .int (Int32.ofNat o), .ref d, .int (Int32.ofNat q), .int (Int32.ofNat len)] 7)) (Tl.setTop (mkF m 13 #[.val (.ref b), .val (.int (Int32.ofNat (o + i))), .val (.ref d), .val (.int (Int32.ofNat (q + i))), .val (.int (Int32.ofNat len)), .val (.int (Int32.ofNat i)), z] [.int (cv A (o + i))])) := c3.trans (by
        refine Xl.aget hexec hAl rfl (hA.get (i := o + i) (by omega)) rfl rfl (hb hbytes d12) ?_
        exact Steps.refl _)
      have c5 : Steps p.tables e below (s₁.setTop (entryFrame m #[.ref b, .int (Int32.ofNat o), .ref d, .int (Int32.ofNat q), .int (Int32.ofNat len)] 7)) (Tl.setTop (mkF m 15 #[.val (.ref b), .val (.int (Int32.ofNat (o + i))), .val (.ref d), .val (.int (Int32.ofNat (q + i))), .val (.int (Int32.ofNat len)), .val (.int (Int32.ofNat i)), .val (.int (cv A (o + i)))] [])) := c4.trans (by
        refine XS.istoreS Xl.here hexec rfl (hb hbytes d13) rfl rfl hz ?_
        exact Steps.refl _)
      have c6 : Steps p.tables e below (s₁.setTop (entryFrame m #[.ref b, .int (Int32.ofNat o), .ref d, .int (Int32.ofNat q), .int (Int32.ofNat len)] 7)) (Tl.setTop (mkF m 31 #[.val (.ref b), .val (.int (Int32.ofNat (o + i))), .val (.ref d), .val (.int (Int32.ofNat (q + i))), .val (.int (Int32.ofNat len)), .val (.int (Int32.ofNat i)), .val (.int (cv A (o + i)))] [.int (lo8 (cv A (o + i))), .int (Int32.ofNat (q + i)), .ref d])) := c5.trans (by
        refine XS.iload Xl.here hexec rfl (hb hbytes d15) rfl ?_
        refine sipushV Xl.here hexec rfl 255 (hb hbytes d17) (by decide) ?_
        refine XS.icmpYes Xl.here hexec rfl (pc0 := 20) rfl (hb hbytes d20) rfl (ii_le_t (hp i (by omega))) (by decide) rfl ?_
        refine XS.aloadN Xl.here hexec rfl (hb hbytes d26) rfl rfl ?_
        refine XS.iloadN Xl.here hexec rfl (hb hbytes d27) rfl ?_
        refine XS.iload Xl.here hexec rfl (hb hbytes d28) rfl ?_
        refine i2b Xl.here hexec rfl (hb hbytes d30) rfl ?_
        exact Steps.refl _)
      obtain ⟨T7, X7, p7, st7⟩ := Xl.aput hexec hBk rfl hlt rfl (fits_lo8 (cv A (o + i))) (g := (mkF m 31 #[.val (.ref b), .val (.int (Int32.ofNat (o + i))), .val (.ref d), .val (.int (Int32.ofNat (q + i))), .val (.int (Int32.ofNat len)), .val (.int (Int32.ofNat i)), .val (.int (cv A (o + i)))] [.int (lo8 (cv A (o + i))), .int (Int32.ofNat (q + i)), .ref d])) rfl (rest := []) rfl (hb hbytes d31)
      have c8 : Steps p.tables e below (s₁.setTop (entryFrame m #[.ref b, .int (Int32.ofNat o), .ref d, .int (Int32.ofNat q), .int (Int32.ofNat len)] 7)) (T7.setTop (mkF m 32 #[.val (.ref b), .val (.int (Int32.ofNat (o + i))), .val (.ref d), .val (.int (Int32.ofNat (q + i))), .val (.int (Int32.ofNat len)), .val (.int (Int32.ofNat i)), .val (.int (cv A (o + i)))] [])) := c6.trans (st7 _ (Steps.refl _))
      have c9 : Steps p.tables e below (s₁.setTop (entryFrame m #[.ref b, .int (Int32.ofNat o), .ref d, .int (Int32.ofNat q), .int (Int32.ofNat len)] 7)) (T7.setTop (mkF m 3 #[.val (.ref b), .val (.int (Int32.ofNat (o + i) + 1)), .val (.ref d), .val (.int (Int32.ofNat (q + i) + 1)), .val (.int (Int32.ofNat len)), .val (.int (Int32.ofNat i + 1)), .val (.int (cv A (o + i)))] [])) := c8.trans (by
        refine iincV X7.here hexec rfl 1 (hb hbytes d32) (by decide) rfl rfl ?_
        refine iincV X7.here hexec rfl 1 (hb hbytes d35) (by decide) rfl rfl ?_
        refine iincV X7.here hexec rfl 1 (hb hbytes d38) (by decide) rfl rfl ?_
        refine XS.goto X7.here hexec rfl (pc0 := 41) rfl (hb hbytes d41) (by decide) rfl ?_
        exact Steps.refl _)
      have c10 : Steps p.tables e below (s₁.setTop (entryFrame m #[.ref b, .int (Int32.ofNat o), .ref d, .int (Int32.ofNat q), .int (Int32.ofNat len)] 7)) (T7.setTop (mkF m 3 #[.val (.ref b), .val (.int (Int32.ofNat (o + (i + 1)))), .val (.ref d), .val (.int (Int32.ofNat (q + (i + 1)))), .val (.int (Int32.ofNat len)), .val (.int (Int32.ofNat (i + 1))), .val (.int (cv A (o + i)))] [])) := by
        have := c9
        rw [succ32, succ32, succ32] at this
        exact this
      exact ih (i + 1) (by omega) _ (Or.inr ⟨_, rfl, rfl⟩) T7 _ (by rw [copyLocs_step, ← List.append_assoc]; exact X7) (pl.trans p7) (fl.step (by omega) hlt (by simp)) c10
  obtain ⟨T9, B9, z9, X9, p9, f9, g9⟩ := loop len 0 (by omega) .unset (Or.inl rfl) s₁ B (by simpa [copyLocs] using X0) ⟨hB0.1, fun _ _ => rfl, rfl⟩ (Laid.zero _ _ _) c2
  have c11 : Steps p.tables e below (s₁.setTop (entryFrame m #[.ref b, .int (Int32.ofNat o), .ref d, .int (Int32.ofNat q), .int (Int32.ofNat len)] 7)) (T9.setTop (mkF m 46 #[.val (.ref b), .val (.int (Int32.ofNat (o + len))), .val (.ref d), .val (.int (Int32.ofNat (q + len))), .val (.int (Int32.ofNat len)), .val (.int (Int32.ofNat len)), z9] [.int (Int32.ofNat len)])) := g9.trans (by
    refine XS.iload X9.here hexec rfl (hb hbytes d3) rfl ?_
    refine XS.iload X9.here hexec rfl (hb hbytes d5) rfl ?_
    refine XS.icmpYes X9.here hexec rfl (pc0 := 7) rfl (hb hbytes d7) rfl (ii_ge_t (nlt32 (by omega) (Nat.le_refl _))) (by decide) rfl ?_
    refine XS.iload X9.here hexec rfl (hb hbytes d44) rfl ?_
    exact Steps.refl _)
  exact ⟨T9, some (.int (Int32.ofNat len)), _, _, _, X9, by simp, rfl, rfl, (fun h => by cases h), ⟨rfl, B9, p9.from hh0, f9⟩, fun fs hl => c11.trans (X9.ireturnOut hexec hret rfl (Or.inl rfl) (hb hbytes d46) hl)⟩
end Cmp5
namespace Cmp3
def yN : MethodName := ⟨"java/lang/StringUTF16", "compress", "([CII)[B"⟩
abbrev yB : ByteArray := jdk_52_method_16_code
theorem d0 : decode yB 0 = .ok (.iload_n 2, 1) := by decide +kernel
theorem d1 : decode yB 1 = .ok (.newarray .byte, 2) := by decide +kernel
theorem d3 : decode yB 3 = .ok (.astore_n 3, 1) := by decide +kernel
theorem d4 : decode yB 4 = .ok (.aload_n 0, 1) := by decide +kernel
theorem d5 : decode yB 5 = .ok (.iload_n 1, 1) := by decide +kernel
theorem d6 : decode yB 6 = .ok (.aload_n 3, 1) := by decide +kernel
theorem d7 : decode yB 7 = .ok (.iconst 0, 1) := by decide +kernel
theorem d8 : decode yB 8 = .ok (.iload_n 2, 1) := by decide +kernel
theorem d9 : decode yB 9 = .ok (.invokestatic 115, 3) := by decide +kernel
theorem d12 : decode yB 12 = .ok (.istore 4, 2) := by decide +kernel
theorem d14 : decode yB 14 = .ok (.iload 4, 2) := by decide +kernel
theorem d16 : decode yB 16 = .ok (.iload_n 2, 1) := by decide +kernel
theorem d17 : decode yB 17 = .ok (.if_icmp (.eq) 40, 3) := by decide +kernel
theorem d57 : decode yB 57 = .ok (.aload_n 3, 1) := by decide +kernel
theorem d58 : decode yB 58 = .ok (.areturn, 1) := by decide +kernel
def site : List Cond := [.arrayClass .byte, Cmp5.tab] ++ staticW U16 115 Cmp5.yN
def tab : Cond := tabOf yN yB 6 (some (.array .byte)) site
def P (b : Addr) (A : Cell) (o len : Nat) (args : Array Value) (s : State) : Prop := args = #[.ref b, .int (Int32.ofNat o), .int (Int32.ofNat len)] ∧ Ch b A s ∧ o + len ≤ A.slots.size ∧ len ≤ 536870912 ∧ ∀ i, i < len → ¬ 255 < cv A (o + i)
def E (b : Addr) (A : Cell) (o len : Nat) (r : Option Value) (s u : State) : Prop := NewArr .byte "[B" len (fun j => .int (lo8 (cv A (o + j)))) r s u ∧ u.heap.size = s.heap.size + 1
/-- no char of the range above 255: a new byte[] of their low bytes -/
theorem law (l : Launch) (b : Addr) (A : Cell) (o len : Nat) : Law l yN 3 3 1 18 yB 6 (some (.array .byte)) site (P b A o len) (E b A o len) [] 1 len := by
  refine Law.of_walk (plainFor_of_name (by decide +kernel)) (by decide +kernel) (by decide +kernel) (by decide) (fun _ _ h => by rw [h.1]; rfl) (fun _ U U' hal hh h => ⟨h.1, h.2.1.mv hal hh, h.2.2⟩) (fun r U U' V V' h1 hal h2 h => ⟨NewArr.mv r U U' V V' h1 hal h2 h.1, by rw [h1, h2]; exact h.2⟩) ?_
  intro p e s m args below meth c s₁ X0 hexec hbytes hml hret hlk hnm hown hh0 W hP
  obtain ⟨rfl, hA, l1, l2, hp⟩ := hP
  have a31 := hA.1.2.2.2
  have c1 : Steps p.tables e below (s₁.setTop (entryFrame m #[.ref b, .int (Int32.ofNat o), .int (Int32.ofNat len)] 6)) (s₁.setTop (mkF m 0 #[.val (.ref b), .val (.int (Int32.ofNat o)), .val (.int (Int32.ofNat len)), .unset, .unset, .unset] [])) := entry rfl
  have c2 : Steps p.tables e below (s₁.setTop (entryFrame m #[.ref b, .int (Int32.ofNat o), .int (Int32.ofNat len)] 6)) (s₁.setTop (mkF m 1 #[.val (.ref b), .val (.int (Int32.ofNat o)), .val (.int (Int32.ofNat len)), .unset, .unset, .unset] [.int (Int32.ofNat len)])) := c1.trans (by
    refine XS.iloadN X0.here hexec rfl (hb hbytes d0) rfl ?_
    exact Steps.refl _)
  obtain ⟨T3, B3, X3, ba3, bs3, bv3, bh3, bf3, st3⟩ := X0.anew hexec (atype := .byte) (wk W (.arrayClass .byte)) rfl (by show len * 1 ≤ _; omega) (by omega) (g := (mkF m 1 #[.val (.ref b), .val (.int (Int32.ofNat o)), .val (.int (Int32.ofNat len)), .unset, .unset, .unset] [.int (Int32.ofNat len)])) rfl (hb hbytes d1) (rest := []) rfl (Nat.le_refl _) (by show 0 + len ≤ len; omega)
  rw [hh0] at ba3 st3
  have kp3 : XT.Kept s T3 := (XT.Kept.of_eq hh0).push bh3
  have hA3 := hA.keep X3.warmed.alike (kp3 _ _ hA.1.1)
  have hne : b ≠ s.heap.size := hA.1.ne
  have c4 : Steps p.tables e below (s₁.setTop (entryFrame m #[.ref b, .int (Int32.ofNat o), .int (Int32.ofNat len)] 6)) (T3.setTop (mkF m 3 #[.val (.ref b), .val (.int (Int32.ofNat o)), .val (.int (Int32.ofNat len)), .unset, .unset, .unset] [.ref s.heap.size])) := c2.trans (st3 _ (Steps.refl _))
  have c5 : Steps p.tables e below (s₁.setTop (entryFrame m #[.ref b, .int (Int32.ofNat o), .int (Int32.ofNat len)] 6)) (T3.setTop (mkF m 9 #[.val (.ref b), .val (.int (Int32.ofNat o)), .val (.int (Int32.ofNat len)), .val (.ref s.heap.size), .unset, .unset] [.int (Int32.ofNat len), .int 0, .ref s.heap.size, .int (Int32.ofNat o), .ref b])) := c4.trans (by
    refine XS.astoreN X3.here hexec rfl (hb hbytes d3) rfl rfl rfl ?_
    refine XS.aloadN X3.here hexec rfl (hb hbytes d4) rfl rfl ?_
    refine XS.iloadN X3.here hexec rfl (hb hbytes d5) rfl ?_
    refine XS.aloadN X3.here hexec rfl (hb hbytes d6) rfl rfl ?_
    refine iconstV X3.here hexec rfl 0 (hb hbytes d7) (by decide) ?_
    refine XS.iloadN X3.here hexec rfl (hb hbytes d8) rfl ?_
    exact Steps.refl _)
  obtain ⟨v6, T6, X6, E6, g6⟩ := X3.callS hexec (Cmp5.law l b A s.heap.size B3 o 0 len) hown (wks W (staticW U16 115 Cmp5.yN)) (wk W Cmp5.tab) (W := 0) (Nat.le_of_ble_eq_true rfl) (Nat.le_of_ble_eq_true rfl) (Nat.le_refl _) (by show 0 + len + 0 ≤ len; omega) (g := (mkF m 9 #[.val (.ref b), .val (.int (Int32.ofNat o)), .val (.int (Int32.ofNat len)), .val (.ref s.heap.size), .unset, .unset] [.int (Int32.ofNat len), .int (Int32.ofNat 0), .ref s.heap.size, .int (Int32.ofNat o), .ref b])) rfl (by rw [hml]; rfl) c5 (argsL := [.ref b, .int (Int32.ofNat o), .ref s.heap.size, .int (Int32.ofNat 0), .int (Int32.ofNat len)]) (rest := []) rfl rfl (by show 2 * 0 + 0 ≤ _; decide) (hb hbytes d9) (⟨rfl, hA3, ba3, hne, l1, by rw [bs3]; simp, hp⟩)
  obtain ⟨rfl, B6, p6, f6⟩ := E6
  have c7 : Steps p.tables e below (s₁.setTop (entryFrame m #[.ref b, .int (Int32.ofNat o), .int (Int32.ofNat len)] 6)) (T6.setTop (mkF m 12 #[.val (.ref b), .val (.int (Int32.ofNat o)), .val (.int (Int32.ofNat len)), .val (.ref s.heap.size), .unset, .unset] [.int (Int32.ofNat len)])) := g6
  have c8 : Steps p.tables e below (s₁.setTop (entryFrame m #[.ref b, .int (Int32.ofNat o), .int (Int32.ofNat len)] 6)) (T6.setTop (mkF m 58 #[.val (.ref b), .val (.int (Int32.ofNat o)), .val (.int (Int32.ofNat len)), .val (.ref s.heap.size), .val (.int (Int32.ofNat len)), .unset] [.ref s.heap.size])) := c7.trans (by
    refine XS.istore X6.here hexec rfl (hb hbytes d12) rfl rfl ?_
    refine XS.iload X6.here hexec rfl (hb hbytes d14) rfl ?_
    refine XS.iloadN X6.here hexec rfl (hb hbytes d16) rfl ?_
    refine XS.icmpYes X6.here hexec rfl (pc0 := 17) rfl (hb hbytes d17) rfl (ii_eq_t rfl) (by decide) rfl ?_
    refine XS.aloadN X6.here hexec rfl (hb hbytes d57) rfl rfl ?_
    exact Steps.refl _)
  have X8 := X6.wide (L' := []) (cells' := 1) (slots' := len) (fun x hx hlt => by
    simp only [List.nil_append, copyLocs, List.mem_map, List.mem_range] at hx
    obtain ⟨i, -, rfl⟩ := hx
    exact absurd hlt (Nat.lt_irrefl _)) (Nat.le_refl _) (by omega)
  exact ⟨T6, some (.ref s.heap.size), _, _, _, X8, rfl, rfl, rfl, (fun h => by cases h), ⟨⟨rfl, B6, ba3.like (X3.warmed.alike.symm.trans X6.warmed.alike) p6.1 f6.1 f6.2.1 f6.2.2.1, f6.2.1.trans bv3, by rw [X6.warmed.alike.findClass, f6.1]; exact bf3, by rw [f6.2.2.1, bs3]; simp, fun j hj => by rw [f6.2.2.2 j, if_pos (by omega)]; rfl, kp3.put p6 (Nat.le_refl _)⟩, by rw [p6.2.2, bh3, hh0]; simp⟩, fun fs hl => c8.trans (X8.areturnOut hexec rfl hret rfl (hb hbytes d58) hl)⟩
end Cmp3
namespace CodL
def yN : MethodName := ⟨"java/lang/StringUTF16", "coderFromArrayLen", "([BI)B"⟩
abbrev yB : ByteArray := jdk_52_method_15_code
theorem d0 : decode yB 0 = .ok (.iload_n 1, 1) := by decide +kernel
theorem d1 : decode yB 1 = .ok (.aload_n 0, 1) := by decide +kernel
theorem d2 : decode yB 2 = .ok (.arraylength, 1) := by decide +kernel
theorem d3 : decode yB 3 = .ok (.isub, 1) := by decide +kernel
theorem d4 : decode yB 4 = .ok (.bipush 31, 2) := by decide +kernel
theorem d6 : decode yB 6 = .ok (.iushr, 1) := by decide +kernel
theorem d7 : decode yB 7 = .ok (.i2b, 1) := by decide +kernel
theorem d8 : decode yB 8 = .ok (.ireturn, 1) := by decide +kernel
def site : List Cond := []
def tab : Cond := tabOf yN yB 2 (some .byte) site
def P (d : Addr) (B : Cell) (args : Array Value) (s : State) : Prop := args = #[.ref d, .int (Int32.ofNat B.slots.size)] ∧ Arr .byte d B s
def E (r : Option Value) (s u : State) : Prop := XT.PureE (some (.int 0)) r s u
/-- an array as long as the number of chars: LATIN1 -/
theorem law (l : Launch) (d : Addr) (B : Cell) : Law l yN 2 2 0 0 yB 2 (some .byte) site (P d B) E [] 0 0 := by
  refine Law.of_walk (plainFor_of_name (by decide +kernel)) (by decide +kernel) (by decide +kernel) (by decide) (fun _ _ h => by rw [h.1]; rfl) (fun _ U U' hal hh h => ⟨h.1, h.2.mv hal hh⟩) (fun r U U' V V' h1 hal h2 h => XT.PureE.mv r U U' V V' h1 hal h2 h) ?_
  intro p e s m args below meth c s₁ X0 hexec hbytes hml hret hlk hnm hown hh0 W hP
  obtain ⟨rfl, hB⟩ := hP
  have hB0 := hB.mv X0.warmed.alike hh0
  have c1 : Steps p.tables e below (s₁.setTop (entryFrame m #[.ref d, .int (Int32.ofNat B.slots.size)] 2)) (s₁.setTop (mkF m 0 #[.val (.ref d), .val (.int (Int32.ofNat B.slots.size))] [])) := entry rfl
  have c2 : Steps p.tables e below (s₁.setTop (entryFrame m #[.ref d, .int (Int32.ofNat B.slots.size)] 2)) (s₁.setTop (mkF m 2 #[.val (.ref d), .val (.int (Int32.ofNat B.slots.size))] [.ref d, .int (Int32.ofNat B.slots.size)])) := c1.trans (by
    refine XS.iloadN X0.here hexec rfl (hb hbytes d0) rfl ?_
    refine XS.aloadN X0.here hexec rfl (hb hbytes d1) rfl rfl ?_
    exact Steps.refl _)
  have c3 : Steps p.tables e below (s₁.setTop (entryFrame m #[.ref d, .int (Int32.ofNat B.slots.size)] 2)) (s₁.setTop (mkF m 8 #[.val (.ref d), .val (.int (Int32.ofNat B.slots.size))] [.int (lo8 (ushr (Int32.ofNat B.slots.size - Int32.ofNat B.slots.size) 31))])) := c2.trans (by
    refine X0.alen hexec hB0 rfl rfl (hb hbytes d2) ?_
    refine XS.isub X0.here hexec rfl (hb hbytes d3) rfl ?_
    refine bipushV X0.here hexec rfl 31 (hb hbytes d4) (by decide) ?_
    refine iushr X0.here hexec rfl (hb hbytes d6) rfl ?_
    refine i2b X0.here hexec rfl (hb hbytes d7) rfl ?_
    exact Steps.refl _)
  have e0 : lo8 (ushr (Int32.ofNat B.slots.size - Int32.ofNat B.slots.size) 31) = 0 := by rw [Int32.sub_self]; decide
  rw [e0] at c3
  exact ⟨s₁, some (.int 0), _, _, _, X0, rfl, rfl, rfl, (fun h => by cases h), ⟨rfl, hh0⟩, fun fs hl => c3.trans (X0.ireturnOut hexec hret rfl (Or.inr (Or.inr (Or.inl rfl))) (hb hbytes d8) hl)⟩
end CodL
/-- the String at a is Latin-1 over a new byte[] (the heap's one new cell): the low bytes of the len chars of A from o on; every cell but a is kept -/
def Got (a : Addr) (D : Cell) (fV fC : Field) (A : Cell) (o len : Nat) (r : Option Value) (s u : State) : Prop := r = none ∧ ∃ D' V : Cell, Blank "java/lang/String" a D' u ∧ Same D D' [fV.slot, fC.slot] ∧ D'.slots[fV.slot]? = some (.ref s.heap.size) ∧ D'.slots[fC.slot]? = some (.int 0) ∧ Arr .byte s.heap.size V u ∧ V.vm = .none ∧ u.vm.findClass "[B" = some V.cls ∧ V.slots.size = len ∧ (∀ j, j < len → V.slots[j]? = some (.int (lo8 (cv A (o + j))))) ∧ (∀ (y : Addr) (c : Cell), y ≠ a → s.heap[y]? = some c → u.heap[y]? = some c) ∧ u.heap.size = s.heap.size + 1
theorem Got.mv {a : Addr} {D A : Cell} {fV fC : Field} {o len : Nat} : ∀ r (U U' V V' : State), U'.heap = U.heap → V.vm.Alike V'.vm → V'.heap = V.heap → Got a D fV fC A o len r U V → Got a D fV fC A o len r U' V' :=
  fun r U U' V V' h1 hal h2 ⟨e0, D', X, a1, a2, a3, a4, a5, a6, a7, a8, a9, a10, a11⟩ => ⟨e0, D', X, a1.mv hal h2, a2, by rw [h1]; exact a3, a4, by rw [h1]; exact a5.mv hal h2, a6, by rw [hal.findClass]; exact a7, a8, a9, by rw [h1, h2]; exact a10, by rw [h1, h2]; exact a11⟩
namespace New4
def yN : MethodName := ⟨"java/lang/String", "<init>", "([CIILjava/lang/Void;)V"⟩
abbrev yB : ByteArray := jdk_42_method_149_code
theorem d0 : decode yB 0 = .ok (.aload_n 0, 1) := by decide +kernel
theorem d1 : decode yB 1 = .ok (.invokespecial 1, 3) := by decide +kernel
theorem d4 : decode yB 4 = .ok (.iload_n 3, 1) := by decide +kernel
theorem d5 : decode yB 5 = .ok (.ifCond (.ne) 22, 3) := by decide +kernel
theorem d27 : decode yB 27 = .ok (.getstatic 38, 3) := by decide +kernel
theorem d30 : decode yB 30 = .ok (.ifCond (.eq) 28, 3) := by decide +kernel
theorem d33 : decode yB 33 = .ok (.aload_n 1, 1) := by decide +kernel
theorem d34 : decode yB 34 = .ok (.iload_n 2, 1) := by decide +kernel
theorem d35 : decode yB 35 = .ok (.iload_n 3, 1) := by decide +kernel
theorem d36 : decode yB 36 = .ok (.invokestatic 177, 3) := by decide +kernel
theorem d39 : decode yB 39 = .ok (.astore 5, 2) := by decide +kernel
theorem d41 : decode yB 41 = .ok (.aload_n 0, 1) := by decide +kernel
theorem d42 : decode yB 42 = .ok (.aload 5, 2) := by decide +kernel
theorem d44 : decode yB 44 = .ok (.iload_n 3, 1) := by decide +kernel
theorem d45 : decode yB 45 = .ok (.invokestatic 47, 3) := by decide +kernel
theorem d48 : decode yB 48 = .ok (.putfield 15, 3) := by decide +kernel
theorem d51 : decode yB 51 = .ok (.aload_n 0, 1) := by decide +kernel
theorem d52 : decode yB 52 = .ok (.aload 5, 2) := by decide +kernel
theorem d54 : decode yB 54 = .ok (.putfield 9, 3) := by decide +kernel
theorem d57 : decode yB 57 = .ok (.return_, 1) := by decide +kernel
def site : List Cond := [.fieldLink "java/lang/String" 38 "java/lang/String" "COMPACT_STRINGS" "Z", Cmp3.tab, CodL.tab, .laysFinal "java/lang/String" "java/lang/String" "value" "[B", .fieldLink "java/lang/String" 9 "java/lang/String" "value" "[B", .laysFinal "java/lang/String" "java/lang/String" "coder" "B", .fieldLink "java/lang/String" 15 "java/lang/String" "coder" "B"] ++ objW "java/lang/String" 1 ++ staticW "java/lang/String" 177 Cmp3.yN ++ staticW "java/lang/String" 47 CodL.yN
def tab : Cond := tabOf yN yB 6 none site
def P (a : Addr) (D : Cell) (fV fC : Field) (b : Addr) (A : Cell) (z : Int32) (o len : Nat) (args : Array Value) (s : State) : Prop := args = #[.ref a, .ref b, .int (Int32.ofNat o), .int (Int32.ofNat len), .null] ∧ Blank "java/lang/String" a D s ∧ Found "java/lang/String" "value" "[B" fV s ∧ Found "java/lang/String" "coder" "B" fC s ∧ Ch b A s ∧ StaticIs s "java/lang/String" "COMPACT_STRINGS" "Z" (.int z) ∧ ¬ z = 0 ∧ 0 < len ∧ o + len ≤ A.slots.size ∧ len ≤ 536870912 ∧ ∀ i, i < len → ¬ 255 < cv A (o + i)
def E (a : Addr) (D : Cell) (fV fC : Field) (A : Cell) (o len : Nat) (r : Option Value) (s u : State) : Prop := Got a D fV fC A o len r s u
/-- len > 0, no char of the range above 255: a Latin-1 String of their low bytes -/
theorem law (l : Launch) (a : Addr) (D : Cell) (fV fC : Field) (b : Addr) (A : Cell) (z : Int32) (o len : Nat) : Law l yN 5 4 2 35 yB 6 none site (P a D fV fC b A z o len) (E a D fV fC A o len) [⟨a, fC.slot⟩, ⟨a, fV.slot⟩] 1 len := by
  refine Law.of_walk (plainFor_of_name (by decide +kernel)) (by decide +kernel) (by decide +kernel) (by decide) (fun _ _ h => by rw [h.1]; rfl) (fun _ U U' hal hh h => ⟨h.1, h.2.1.mv hal hh, h.2.2.1.al hal, h.2.2.2.1.al hal, h.2.2.2.2.1.mv hal hh, h.2.2.2.2.2.1.there hal hh, h.2.2.2.2.2.2⟩) (fun r U U' V V' h1 hal h2 h => Got.mv r U U' V V' h1 hal h2 h) ?_
  intro p e s m args below meth c s₁ X0 hexec hbytes hml hret hlk hnm hown hh0 W hP
  obtain ⟨rfl, hB, f1, f2, hA, s1, hz, l0, l1, l2, hp⟩ := hP
  have a31 := hA.1.2.2.2
  have c1 : Steps p.tables e below (s₁.setTop (entryFrame m #[.ref a, .ref b, .int (Int32.ofNat o), .int (Int32.ofNat len), .null] 6)) (s₁.setTop (mkF m 0 #[.val (.ref a), .val (.ref b), .val (.int (Int32.ofNat o)), .val (.int (Int32.ofNat len)), .val .null, .unset] [])) := entry rfl
  have c2 : Steps p.tables e below (s₁.setTop (entryFrame m #[.ref a, .ref b, .int (Int32.ofNat o), .int (Int32.ofNat len), .null] 6)) (s₁.setTop (mkF m 1 #[.val (.ref a), .val (.ref b), .val (.int (Int32.ofNat o)), .val (.int (Int32.ofNat len)), .val .null, .unset] [.ref a])) := c1.trans (by
    refine XS.aloadN X0.here hexec rfl (hb hbytes d0) rfl rfl ?_
    exact Steps.refl _)
  obtain ⟨T3, X3, q3, st3⟩ := X0.oinit hexec hown (wks W (objW "java/lang/String" 1)) (g := (mkF m 1 #[.val (.ref a), .val (.ref b), .val (.int (Int32.ofNat o)), .val (.int (Int32.ofNat len)), .val .null, .unset] [.ref a])) rfl (by rw [hml]; rfl) (rest := []) rfl (hb hbytes d1) (W := 0) (by show 2 * 0 + 0 ≤ _; decide) (Nat.le_of_ble_eq_true rfl) (Nat.le_of_ble_eq_true rfl)
  have hh3 := q3.trans hh0
  have c4 : Steps p.tables e below (s₁.setTop (entryFrame m #[.ref a, .ref b, .int (Int32.ofNat o), .int (Int32.ofNat len), .null] 6)) (T3.setTop (mkF m 27 #[.val (.ref a), .val (.ref b), .val (.int (Int32.ofNat o)), .val (.int (Int32.ofNat len)), .val .null, .unset] [])) := (c2.trans (st3 _ (Steps.refl _))).trans (by
    refine XS.iloadN X3.here hexec rfl (hb hbytes d4) rfl ?_
    refine XS.ifYes X3.here hexec rfl (pc0 := 5) rfl (hb hbytes d5) rfl (i0_ne_t (nz32 (by omega) l0)) (by decide) rfl ?_
    exact Steps.refl _)
  obtain ⟨T5, X5, q5, st5⟩ := X3.sget hexec hown (wk W (.fieldLink "java/lang/String" 38 "java/lang/String" "COMPACT_STRINGS" "Z")) s1 (fun _ _ h => by rw [hh3]; exact h) (g := (mkF m 27 #[.val (.ref a), .val (.ref b), .val (.int (Int32.ofNat o)), .val (.int (Int32.ofNat len)), .val .null, .unset] [])) rfl (hb hbytes d27)
  have hh5 := q5.trans hh3
  have c6 : Steps p.tables e below (s₁.setTop (entryFrame m #[.ref a, .ref b, .int (Int32.ofNat o), .int (Int32.ofNat len), .null] 6)) (T5.setTop (mkF m 30 #[.val (.ref a), .val (.ref b), .val (.int (Int32.ofNat o)), .val (.int (Int32.ofNat len)), .val .null, .unset] [.int z])) := c4.trans (st5 _ (Steps.refl _))
  have c7 : Steps p.tables e below (s₁.setTop (entryFrame m #[.ref a, .ref b, .int (Int32.ofNat o), .int (Int32.ofNat len), .null] 6)) (T5.setTop (mkF m 36 #[.val (.ref a), .val (.ref b), .val (.int (Int32.ofNat o)), .val (.int (Int32.ofNat len)), .val .null, .unset] [.int (Int32.ofNat len), .int (Int32.ofNat o), .ref b])) := c6.trans (by
    refine XS.ifNo X5.here hexec rfl (hb hbytes d30) rfl (i0_eq_f hz) ?_
    refine XS.aloadN X5.here hexec rfl (hb hbytes d33) rfl rfl ?_
    refine XS.iloadN X5.here hexec rfl (hb hbytes d34) rfl ?_
    refine XS.iloadN X5.here hexec rfl (hb hbytes d35) rfl ?_
    exact Steps.refl _)
  obtain ⟨v8, T8, X8, E8, g8⟩ := X5.callS hexec (Cmp3.law l b A o len) hown (wks W (staticW "java/lang/String" 177 Cmp3.yN)) (wk W Cmp3.tab) (W := 0) (Nat.le_of_ble_eq_true rfl) (Nat.le_of_ble_eq_true rfl) (Nat.le_refl _) (by show 0 + len ≤ len; omega) (g := (mkF m 36 #[.val (.ref a), .val (.ref b), .val (.int (Int32.ofNat o)), .val (.int (Int32.ofNat len)), .val .null, .unset] [.int (Int32.ofNat len), .int (Int32.ofNat o), .ref b])) rfl (by rw [hml]; rfl) c7 (argsL := [.ref b, .int (Int32.ofNat o), .int (Int32.ofNat len)]) (rest := []) rfl rfl (by show 2 * 0 + 0 ≤ _; decide) (hb hbytes d36) (⟨rfl, hA.mv X5.warmed.alike hh5, l1, l2, hp⟩)
  obtain ⟨e8, z8⟩ := E8
  obtain ⟨rfl, N, n1, n2, n3, n4, n5, n6⟩ := NewArr.mv _ T5 s _ _ hh5.symm (Vm.Alike.refl _) rfl e8
  rw [hh5] at z8
  have hB1 := hB.keep X8.warmed.alike (n6 _ _ hB.1)
  have hne : s.heap.size ≠ a := (Nat.ne_of_lt (Array.getElem?_eq_some_iff.mp hB.1).1).symm
  have c9 : Steps p.tables e below (s₁.setTop (entryFrame m #[.ref a, .ref b, .int (Int32.ofNat o), .int (Int32.ofNat len), .null] 6)) (T8.setTop (mkF m 39 #[.val (.ref a), .val (.ref b), .val (.int (Int32.ofNat o)), .val (.int (Int32.ofNat len)), .val .null, .unset] [.ref s.heap.size])) := g8
  have c10 : Steps p.tables e below (s₁.setTop (entryFrame m #[.ref a, .ref b, .int (Int32.ofNat o), .int (Int32.ofNat len), .null] 6)) (T8.setTop (mkF m 45 #[.val (.ref a), .val (.ref b), .val (.int (Int32.ofNat o)), .val (.int (Int32.ofNat len)), .val .null, .val (.ref s.heap.size)] [.int (Int32.ofNat N.slots.size), .ref s.heap.size, .ref a])) := by
    have hc : Steps p.tables e below (s₁.setTop (entryFrame m #[.ref a, .ref b, .int (Int32.ofNat o), .int (Int32.ofNat len), .null] 6)) (T8.setTop (mkF m 45 #[.val (.ref a), .val (.ref b), .val (.int (Int32.ofNat o)), .val (.int (Int32.ofNat len)), .val .null, .val (.ref s.heap.size)] [.int (Int32.ofNat len), .ref s.heap.size, .ref a])) := c9.trans (by
      refine XS.astore X8.here hexec rfl (hb hbytes d39) rfl rfl rfl ?_
      refine XS.aloadN X8.here hexec rfl (hb hbytes d41) rfl rfl ?_
      refine XS.aload X8.here hexec rfl (hb hbytes d42) rfl rfl ?_
      refine XS.iloadN X8.here hexec rfl (hb hbytes d44) rfl ?_
      exact Steps.refl _)
    rw [n4]; exact hc
  obtain ⟨v11, T11, X11, E11, g11⟩ := X8.callS hexec (CodL.law l s.heap.size N) hown (wks W (staticW "java/lang/String" 47 CodL.yN)) (wk W CodL.tab) (W := 1) (Nat.le_of_ble_eq_true rfl) (Nat.le_of_ble_eq_true rfl) (Nat.le_refl _) (by show 0 + len + 0 ≤ len; omega) (g := (mkF m 45 #[.val (.ref a), .val (.ref b), .val (.int (Int32.ofNat o)), .val (.int (Int32.ofNat len)), .val .null, .val (.ref s.heap.size)] [.int (Int32.ofNat N.slots.size), .ref s.heap.size, .ref a])) rfl (by rw [hml]; rfl) c10 (argsL := [.ref s.heap.size, .int (Int32.ofNat N.slots.size)]) (rest := [.ref a]) rfl rfl (by show 2 * 0 + (1 + 0) ≤ _; decide) (hb hbytes d45) (⟨rfl, n1⟩)
  obtain ⟨rfl, q11⟩ := E11
  have hB11 := hB1.mv (X8.warmed.alike.symm.trans X11.warmed.alike) q11
  have c12 : Steps p.tables e below (s₁.setTop (entryFrame m #[.ref a, .ref b, .int (Int32.ofNat o), .int (Int32.ofNat len), .null] 6)) (T11.setTop (mkF m 48 #[.val (.ref a), .val (.ref b), .val (.int (Int32.ofNat o)), .val (.int (Int32.ofNat len)), .val .null, .val (.ref s.heap.size)] [.int 0, .ref a])) := g11
  obtain ⟨T13, X13, p13, bl13, sl13, st13⟩ := X11.finit hexec hown (wk W (.fieldLink "java/lang/String" 15 "java/lang/String" "coder" "B")) (Or.inr ⟨_, (wk W (.laysFinal "java/lang/String" "java/lang/String" "coder" "B"))⟩) (Or.inl ⟨rfl, hnm⟩) f2 (Or.inl rfl) hB11 (t := .byte) (by decide +kernel) rfl (g := (mkF m 48 #[.val (.ref a), .val (.ref b), .val (.int (Int32.ofNat o)), .val (.int (Int32.ofNat len)), .val .null, .val (.ref s.heap.size)] [.int 0, .ref a])) rfl (rest := []) rfl (hb hbytes d48)
  have c14 : Steps p.tables e below (s₁.setTop (entryFrame m #[.ref a, .ref b, .int (Int32.ofNat o), .int (Int32.ofNat len), .null] 6)) (T13.setTop (mkF m 54 #[.val (.ref a), .val (.ref b), .val (.int (Int32.ofNat o)), .val (.int (Int32.ofNat len)), .val .null, .val (.ref s.heap.size)] [.ref s.heap.size, .ref a])) := (c12.trans (st13 _ (Steps.refl _))).trans (by
    refine XS.aloadN X13.here hexec rfl (hb hbytes d51) rfl rfl ?_
    refine XS.aload X13.here hexec rfl (hb hbytes d52) rfl rfl ?_
    exact Steps.refl _)
  obtain ⟨T15, X15, p15, bl15, sl15, st15⟩ := X13.finit hexec hown (wk W (.fieldLink "java/lang/String" 9 "java/lang/String" "value" "[B")) (Or.inr ⟨_, (wk W (.laysFinal "java/lang/String" "java/lang/String" "value" "[B"))⟩) (Or.inl ⟨rfl, hnm⟩) f1 (Or.inl rfl) bl13 (t := (.array .byte)) (by decide +kernel) rfl (g := (mkF m 54 #[.val (.ref a), .val (.ref b), .val (.int (Int32.ofNat o)), .val (.int (Int32.ofNat len)), .val .null, .val (.ref s.heap.size)] [.ref s.heap.size, .ref a])) rfl (rest := []) rfl (hb hbytes d54)
  have c16 : Steps p.tables e below (s₁.setTop (entryFrame m #[.ref a, .ref b, .int (Int32.ofNat o), .int (Int32.ofNat len), .null] 6)) (T15.setTop (mkF m 57 #[.val (.ref a), .val (.ref b), .val (.int (Int32.ofNat o)), .val (.int (Int32.ofNat len)), .val .null, .val (.ref s.heap.size)] [])) := c14.trans (st15 _ (Steps.refl _))
  have ap := apart (Or.inr ⟨_, (wk W (.laysFinal "java/lang/String" "java/lang/String" "value" "[B"))⟩) (Or.inr ⟨_, (wk W (.laysFinal "java/lang/String" "java/lang/String" "coder" "B"))⟩) f1 f2 (t₁ := .array .byte) (t₂ := .byte) (by decide +kernel) (by decide +kernel) (by decide)
  have al := X8.warmed.alike.symm.trans X15.warmed.alike
  have n7 : T11.heap[s.heap.size]? = some N := by rw [q11]; exact n1.1
  exact ⟨T15, none, _, _, _, X15, by simp, rfl, by omega, (fun _ => rfl), ⟨rfl, _, N, bl15, ((Same.refl D _).set _ (by simp)).set _ (by simp), sl15, (Cell.slots_setSlot_ne _ ap).trans sl13, n1.keep al (p15.other hne (p13.other hne n7)), n2, by rw [al.findClass]; exact n3, n4, n5, fun y c h1 h2 => p15.other h1 (p13.other h1 (by rw [q11]; exact n6 y c h2)), by rw [p15.2.2, p13.2.2, q11]; exact z8⟩, fun fs hl => c16.trans (X15.returnOut hexec hret (hb hbytes d57) hl)⟩
end New4
namespace New1
def yN : MethodName := ⟨"java/lang/String", "<init>", "([C)V"⟩
abbrev yB : ByteArray := jdk_42_method_3_code
theorem d0 : decode yB 0 = .ok (.aload_n 0, 1) := by decide +kernel
theorem d1 : decode yB 1 = .ok (.aload_n 1, 1) := by decide +kernel
theorem d2 : decode yB 2 = .ok (.iconst 0, 1) := by decide +kernel
theorem d3 : decode yB 3 = .ok (.aload_n 1, 1) := by decide +kernel
theorem d4 : decode yB 4 = .ok (.arraylength, 1) := by decide +kernel
theorem d5 : decode yB 5 = .ok (.aconst_null, 1) := by decide +kernel
theorem d6 : decode yB 6 = .ok (.invokespecial 27, 3) := by decide +kernel
theorem d9 : decode yB 9 = .ok (.return_, 1) := by decide +kernel
def site : List Cond := [New4.tab] ++ initW "java/lang/String" 27 New4.yN
def tab : Cond := tabOf yN yB 2 none site
def P (a : Addr) (D : Cell) (fV fC : Field) (b : Addr) (A : Cell) (z : Int32) (args : Array Value) (s : State) : Prop := args = #[.ref a, .ref b] ∧ Blank "java/lang/String" a D s ∧ Found "java/lang/String" "value" "[B" fV s ∧ Found "java/lang/String" "coder" "B" fC s ∧ Ch b A s ∧ StaticIs s "java/lang/String" "COMPACT_STRINGS" "Z" (.int z) ∧ ¬ z = 0 ∧ 0 < A.slots.size ∧ A.slots.size ≤ 536870912 ∧ ∀ i, i < A.slots.size → ¬ 255 < cv A i
def E (a : Addr) (D : Cell) (fV fC : Field) (A : Cell) (r : Option Value) (s u : State) : Prop := Got a D fV fC A 0 A.slots.size r s u
/-- new String(chars), not empty, no char above 255: a Latin-1 String of their low bytes -/
theorem law (l : Launch) (a : Addr) (D : Cell) (fV fC : Field) (b : Addr) (A : Cell) (z : Int32) : Law l yN 2 1 3 52 yB 2 none site (P a D fV fC b A z) (E a D fV fC A) [⟨a, fC.slot⟩, ⟨a, fV.slot⟩] 1 A.slots.size := by
  refine Law.of_walk (plainFor_of_name (by decide +kernel)) (by decide +kernel) (by decide +kernel) (by decide) (fun _ _ h => by rw [h.1]; rfl) (fun _ U U' hal hh h => ⟨h.1, h.2.1.mv hal hh, h.2.2.1.al hal, h.2.2.2.1.al hal, h.2.2.2.2.1.mv hal hh, h.2.2.2.2.2.1.there hal hh, h.2.2.2.2.2.2⟩) (fun r U U' V V' h1 hal h2 h => Got.mv r U U' V V' h1 hal h2 h) ?_
  intro p e s m args below meth c s₁ X0 hexec hbytes hml hret hlk hnm hown hh0 W hP
  obtain ⟨rfl, hB, f1, f2, hA, s1, hz, l0, l2, hp⟩ := hP
  have c1 : Steps p.tables e below (s₁.setTop (entryFrame m #[.ref a, .ref b] 2)) (s₁.setTop (mkF m 0 #[.val (.ref a), .val (.ref b)] [])) := entry rfl
  have c2 : Steps p.tables e below (s₁.setTop (entryFrame m #[.ref a, .ref b] 2)) (s₁.setTop (mkF m 6 #[.val (.ref a), .val (.ref b)] [.null, .int (Int32.ofNat A.slots.size), .int 0, .ref b, .ref a])) := c1.trans (by
    refine XS.aloadN X0.here hexec rfl (hb hbytes d0) rfl rfl ?_
    refine XS.aloadN X0.here hexec rfl (hb hbytes d1) rfl rfl ?_
    refine iconstV X0.here hexec rfl 0 (hb hbytes d2) (by decide) ?_
    refine XS.aloadN X0.here hexec rfl (hb hbytes d3) rfl rfl ?_
    refine X0.alen hexec (hA.1.mv X0.warmed.alike hh0) rfl rfl (hb hbytes d4) ?_
    refine XS.aconstNull X0.here hexec rfl (hb hbytes d5) ?_
    exact Steps.refl _)
  obtain ⟨v3, T3, X3, E3, g3⟩ := X0.callN hexec (New4.law l a D fV fC b A z 0 A.slots.size) rfl hown (wks W (initW "java/lang/String" 27 New4.yN)) (W New4.tab (by simp only [site, List.mem_cons, List.mem_append, true_or, or_true])) (W := 0) (Nat.le_of_ble_eq_true rfl) (Nat.le_of_ble_eq_true rfl) (Nat.le_refl _) (by show 0 + A.slots.size ≤ A.slots.size; omega) (g := (mkF m 6 #[.val (.ref a), .val (.ref b)] [.null, .int (Int32.ofNat A.slots.size), .int (Int32.ofNat 0), .ref b, .ref a])) rfl (by rw [hml]; rfl) c2 (argsL := [.ref b, .int (Int32.ofNat 0), .int (Int32.ofNat A.slots.size), .null]) (rest := []) rfl rfl (by show 2 * 0 + 0 ≤ _; decide) (hb hbytes d6) (⟨rfl, hB.mv X0.warmed.alike hh0, f1.al X0.warmed.alike, f2.al X0.warmed.alike, hA.mv X0.warmed.alike hh0, s1.there X0.warmed.alike hh0, hz, l0, by omega, l2, fun i hi => by rw [Nat.zero_add]; exact hp i hi⟩)
  have e0 := Got.mv _ s₁ s _ _ hh0.symm (Vm.Alike.refl _) rfl E3
  obtain rfl := e0.1
  have c4 : Steps p.tables e below (s₁.setTop (entryFrame m #[.ref a, .ref b] 2)) (T3.setTop (mkF m 9 #[.val (.ref a), .val (.ref b)] [])) := g3
  exact ⟨T3, none, _, _, _, X3, by simp, rfl, by omega, (fun _ => rfl), e0, fun fs hl => c4.trans (X3.returnOut hexec hret (hb hbytes d9) hl)⟩
theorem pays {l : Launch} {R : Room} {p : Program} {e : Env} {below : List Frame} {s : State} {sargs : Array Value} {len W : Nat} (a : Addr) (D : Cell) (fV fC : Field) (b : Addr) (A : Cell) (z : Int32) (htab : tab.before sargs s = true) (hfr : 4 ≤ R.frames) (hlo : W + 65 ≤ R.locals) :
    Back l R p e below s sargs yN len W (fun A₁ a₁ => A₁.cells + 1 ≤ R.cells ∧ A₁.slots + A.slots.size ≤ R.slots ∧ P a D fV fC b A z a₁ A₁.U) (fun A₁ _ v₁ B₁ => E a D fV fC A v₁ A₁.U B₁.U ∧ B₁.locs = A₁.locs ++ [⟨a, fC.slot⟩, ⟨a, fV.slot⟩] ∧ B₁.cells = A₁.cells + 1 ∧ B₁.slots = A₁.slots + A.slots.size) :=
  (law l a D fV fC b A z).pays htab hfr (by omega)
end New1
/-- the byte, read back as charAt reads it, is the char -/
theorem lo8_mask {x : Int32} (h0 : ¬ x < 0) (h1 : ¬ 255 < x) : lo8 x &&& 255 = x := by
  have t : ∀ k : Fin 256, lo8 (Int32.ofNat k.val) &&& 255 = Int32.ofNat k.val := by decide +kernel
  rw [Int32.lt_iff_toInt_lt] at h0 h1
  have e0 : (0 : Int32).toInt = 0 := rfl
  have e1 : (255 : Int32).toInt = 255 := rfl
  obtain ⟨k, hk⟩ : ∃ k : Nat, x.toInt = k := ⟨x.toInt.toNat, by omega⟩
  have hx : x = Int32.ofNat k := Int32.toInt_inj.mp (by rw [hk, Int32.toInt_ofNat_small (by omega)])
  rw [hx]
  exact t ⟨k, by omega⟩
end StrChars
namespace StrChars.Road
open Jvm Sem ClassFile Op Lib Jvm.Stand Jvm.Free Jvm.Free.XT
open Jvm.Lib.Cold (StaticIs)
abbrev ST : String := "java/lang/String"
/-- every table word that New1's law asks, flat -/
abbrev words : List Jvm.Cond := [.code New1.yN New1.yB 2 none, .initialized ST, .methodLink ST 27 New4.yN, .instanceMethod New4.yN,
  .code New4.yN New4.yB 6 none, .fieldLink ST 38 ST "COMPACT_STRINGS" "Z", .laysFinal ST ST "value" "[B", .fieldLink ST 9 ST "value" "[B", .laysFinal ST ST "coder" "B", .fieldLink ST 15 ST "coder" "B",
  .methodLink ST 1 Lib.objectInit, .instanceMethod Lib.objectInit, .code Lib.objectInit ⟨#[0xb1]⟩ 1 none, .methodLink ST 177 Cmp3.yN, .static Cmp3.yN, .methodLink ST 47 CodL.yN, .static CodL.yN,
  .code Cmp3.yN Cmp3.yB 6 (some (.array .byte)), .initialized U16, .arrayClass .byte, .methodLink U16 115 Cmp5.yN, .static Cmp5.yN, .code Cmp5.yN Cmp5.yB 7 (some .int), .code CodL.yN CodL.yB 2 (some .byte)]
theorem tab_of {a : Array Value} {s : State} (h : ∀ w ∈ words, w.before a s = true) : New1.tab.before a s = true := by
  have h5 : Cmp5.tab.before a s = true := unparts (wk h (.code Cmp5.yN Cmp5.yB 7 (some .int))) (wks h (.initialized Cmp5.yN.cls :: Cmp5.site))
  have hc : CodL.tab.before a s = true := unparts (wk h (.code CodL.yN CodL.yB 2 (some .byte))) (wks h (.initialized CodL.yN.cls :: CodL.site))
  have q5 : ∀ w ∈ Cmp5.tab :: words, w.before a s = true := fun w hw => (List.mem_cons.mp hw).elim (fun e => e ▸ h5) (h w)
  have h3 : Cmp3.tab.before a s = true := unparts (wk q5 (.code Cmp3.yN Cmp3.yB 6 (some (.array .byte)))) (wks q5 (.initialized Cmp3.yN.cls :: Cmp3.site))
  have q3 : ∀ w ∈ Cmp3.tab :: CodL.tab :: words, w.before a s = true := fun w hw => (List.mem_cons.mp hw).elim (fun e => e ▸ h3) fun hw => (List.mem_cons.mp hw).elim (fun e => e ▸ hc) (h w)
  have h4 : New4.tab.before a s = true := unparts (wk q3 (.code New4.yN New4.yB 6 none)) (wks q3 (.initialized New4.yN.cls :: New4.site))
  have q4 : ∀ w ∈ New4.tab :: words, w.before a s = true := fun w hw => (List.mem_cons.mp hw).elim (fun e => e ▸ h4) (h w)
  exact unparts (wk q4 (.code New1.yN New1.yB 2 none)) (wks q4 (.initialized New1.yN.cls :: New1.site))
/-- the words ride from the start Z to the walk's own state -/
theorem moved {Z s : State} {a0 args : Array Value} (hZ : Z.Warmed39 s.vm) (hw : ∀ d ∈ words, d.before a0 Z = true) : ∀ d ∈ words, d.before args s = true := fun d hd => by
  have q := hw d hd
  have t : ∀ d ∈ words, d = .arrayClass .byte ∨ (d.onTables && d.keepsFace) = true := by decide +kernel
  rcases t d hd with rfl | t
  · exact RoadKit.mvA hZ q
  · exact RoadKit.mv hZ q t
/-- WHAT COMES BACK, over the tables of the start Z: h the heap at the call, h' behind it -/
def Q (Z : State) (x : Addr) (A : Cell) (h : Heap) (v : Option Value) (h' : Heap) (L : List Loc) : Prop := v = none ∧ (∀ y ∈ L, y.base = x) ∧ RoadKit.Keep h h' [x] ∧ h'.size = h.size + 1 ∧ RoadKit.Exa Z h' x ST ∧ RoadKit.Fld Z h' x ST "value" "[B" (.ref h.size) ∧ RoadKit.Fld Z h' x ST "coder" "B" (.int 0) ∧
  (∃ V : Cell, RoadKit.Arr Z h' h.size V .byte ∧ V.vm = .none ∧ Z.vm.findClass "[B" = some V.cls ∧ V.slots.size = A.slots.size ∧ ∀ j, j < A.slots.size → V.slots[j]? = some (.int (lo8 (cv A j)))) ∧
  ∀ (O n d : String) (w : Value), RoadKit.Fld Z h x O n d w → RoadKit.slotOf Z O n d ≠ RoadKit.slotOf Z ST "value" "[B" → RoadKit.slotOf Z O n d ≠ RoadKit.slotOf Z ST "coder" "B" → RoadKit.Fld Z h' x O n d w
/-- **new String(chars) AT A CALL, IN THE ROAD'S FORM**: for specialBack behind newO: x the fresh String, b the char[] with the cell A -/
theorem back {p : Program} {l : Launch} {e : Env} {R : Room} {s : State} {args : Array Value} {below : List Frame} {len W : Nat} {Z : State} {a0 : Array Value} {h : Heap} (hZ : Z.Warmed39 s.vm) (hw : ∀ d ∈ words, d.before a0 Z = true) {kI : Nat} (wi : (Jvm.Cond.instantiable ST kI).before a0 Z = true)
    {x b : Addr} {A : Cell} {z : Int32} {v0 c0 : Value} (E : RoadKit.Exa Z h x ST) (V : RoadKit.Fld Z h x ST "value" "[B" v0) (C : RoadKit.Fld Z h x ST "coder" "B" c0) (K : RoadKit.Arr Z h b A .char) (hty : Typed .char A) (S : RoadKit.Sta Z h ST "COMPACT_STRINGS" "Z" (.int z)) (hz : ¬ z = 0)
    (l0 : 0 < A.slots.size) (l2 : A.slots.size ≤ 536870912) (hp : ∀ i, i < A.slots.size → ¬ 255 < cv A i) (hfr : 4 ≤ R.frames) (hlo : W + 65 ≤ R.locals) :
    Back l R p e below s args New1.yN len W (fun P a => a = #[.ref x, .ref b] ∧ P.U.heap = h ∧ P.cells + 1 ≤ R.cells ∧ P.slots + A.slots.size ≤ R.slots)
      (fun P _ v B => ∃ L, Q Z x A h v B.U.heap L ∧ B.locs = P.locs ++ L ∧ B.cells = P.cells + 1 ∧ B.slots = P.slots + A.slots.size) := by
  intro m meth c P g ig mk a X hg hsize hdg hW hn hp'
  obtain ⟨rfl, rfl, r1, r2⟩ := hp'
  have al : Z.vm.Alike P.U.vm := hZ.alike.trans X.warmed.alike
  obtain ⟨D, cfV, kV, iV, fV, hD, gV, stV, knV, obV, asV, slV⟩ := id V
  obtain ⟨D', cfC, kC, iC, fC, hD', gC, stC, -, -, asC, slC⟩ := id C
  cases hD.symm.trans hD'
  obtain ⟨D2, kD, e1, e2, e3, e4, e5⟩ := id E
  cases hD.symm.trans e1
  obtain ⟨c2, k2, i1, i2, i3, -⟩ := Cond.instantiable_spec wi
  cases e2.symm.trans i1
  cases e3.symm.trans i2
  obtain ⟨kU, u1, u2⟩ := al.2.2 _ _ e3
  have hB : Blank ST x D P.U := ⟨hD, ⟨knV, fun q hq => by rw [hq] at obV; cases obV⟩, by rw [al.findClass]; exact e2, kU, u1, by rw [u2]; exact i3, by rw [u2]; exact e5 i3⟩
  have F1 : Found ST "value" "[B" fV P.U := ⟨SBG.found_only al ⟨cfV, kV, iV, gV⟩, stV⟩
  have F2 : Found ST "coder" "B" fC P.U := ⟨SBG.found_only al ⟨cfC, kC, iC, gC⟩, stC⟩
  have hA : Ch b A P.U := ⟨⟨K.1, State.isArrayOf_alike al K.2.1, K.2.2, by omega⟩, hty⟩
  have hS : StaticIs P.U ST "COMPACT_STRINGS" "Z" (.int z) := by
    obtain ⟨cfS, iS, kS, fS, st, cS, t1, t2, t3, t4, t5, t6, t7⟩ := S
    exact StaticIs.there (s := { Z with heap := P.U.heap }) ⟨cfS, iS, kS, fS, st, cS, t1, t2, t3, t4, t5, (fun q => by rw [q] at t6; cases t6), t7⟩ al rfl
  obtain ⟨v, B, X', ⟨⟨hv, E', V', q1, q2, q3, q4, q5, q6, q7, q8, q9, q10, q11⟩, hl, hc, hs⟩, st⟩ := New1.pays x D fV fC b A z (tab_of (moved hZ hw)) hfr hlo m meth c P g ig mk _ X hg hsize hdg hW hn ⟨r1, r2, rfl, hB, F1, F2, hA, hS, hz, l0, l2, hp⟩
  have al' : Z.vm.Alike B.U.vm := hZ.alike.trans X'.warmed.alike
  have hsz : E'.slots.size = D.slots.size := by
    obtain ⟨-, -, -, kB, w1, w2, w3⟩ := q1
    obtain ⟨kB', y1, y2⟩ := al'.2.2 _ _ e3
    rw [q2.2.1] at w1
    cases w1.symm.trans y1
    rw [w3, e5 i3, y2]
  refine ⟨v, B, X', ⟨_, ⟨hv, ?_, ⟨by omega, fun y cy hy hn' => q10 y cy (by simpa using hn') hy, fun y cy hy => ?_⟩, q11, ⟨E', _, q1.1, by rw [q2.2.1]; exact e2, by rw [q2.2.1]; exact e3, by rw [q2.1]; exact obV, fun _ => by rw [hsz]; exact e5 i3⟩,
    ⟨E', cfV, kV, iV, fV, q1.1, gV, stV, by rw [q2.1]; exact knV, by rw [q2.1]; exact obV, by rw [q2.2.1]; exact asV, q3⟩, ⟨E', cfC, kC, iC, fC, q1.1, gC, stC, by rw [q2.1]; exact knV, by rw [q2.1]; exact obV, by rw [q2.2.1]; exact asC, q4⟩,
    ⟨V', ⟨q5.1, State.isArrayOf_alike al'.symm q5.2.1, q5.2.2.1⟩, q6, by rw [← al'.findClass]; exact q7, q8, fun j hj => by have := q9 j hj; rwa [Nat.zero_add] at this⟩, fun O n d w F n1 n2 => ?_⟩, hl, hc, hs⟩, st⟩
  · intro y hy
    simp only [List.mem_cons, List.not_mem_nil, or_false] at hy
    rcases hy with rfl | rfl <;> rfl
  · by_cases q : y = x
    · subst q
      cases hD.symm.trans hy
      exact ⟨E', q1.1, q2.2.1, q2.1, hsz⟩
    · exact ⟨cy, q10 y cy q hy, rfl, rfl, rfl⟩
  · obtain ⟨D3, cf, k, i, f, g1, g2, g3, g4, g5, g6, g7⟩ := F
    cases hD.symm.trans g1
    simp only [RoadKit.slotOf, g2, gV, gC, Option.map_some, Option.getD_some] at n1 n2
    exact ⟨E', cf, k, i, f, q1.1, g2, g3, by rw [q2.1]; exact g4, by rw [q2.1]; exact g5, by rw [q2.2.1]; exact g6, by rw [q2.2.2 f.slot (by simp [n1, n2])]; exact g7⟩
end StrChars.Road
namespace StrChars.Road
open Jvm Sem ClassFile Op Lib Jvm.Stand Jvm.Free Jvm.Free.XT
/-- WHAT COMES BACK, the byte[] as a list of values -/
def QA (Z : State) (x : Addr) (zn : Int32) (cs : List Int32) (h : Heap) (v : Option Value) (h' : Heap) (L : List Loc) : Prop := v = none ∧ (∀ y ∈ L, y.base = x) ∧ RoadKit.Keep h h' [x] ∧ h'.size = h.size + 1 ∧ RoadKit.Exa Z h' x ST ∧ RoadKit.Fld Z h' x ST "value" "[B" (.ref h.size) ∧ RoadKit.Fld Z h' x ST "coder" "B" (.int 0) ∧
  (∃ kb, Z.vm.findClass "[B" = some kb ∧ RoadKit.Arv Z h' h.size kb .byte zn (cs.map fun c => .int (lo8 c)) (.int 0)) ∧
  ∀ (O n d : String) (w : Value), RoadKit.Fld Z h x O n d w → RoadKit.slotOf Z O n d ≠ RoadKit.slotOf Z ST "value" "[B" → RoadKit.slotOf Z O n d ≠ RoadKit.slotOf Z ST "coder" "B" → RoadKit.Fld Z h' x O n d w
/-- **new String(chars) AT A CALL, THE ARRAYS AS LISTS**: the char[] at b holds cs, not empty, no char above 255 -/
theorem backArv {p : Program} {l : Launch} {e : Env} {R : Room} {s : State} {args : Array Value} {below : List Frame} {len W : Nat} {Z : State} {a0 : Array Value} {h : Heap} (hZ : Z.Warmed39 s.vm) (hw : ∀ d ∈ words, d.before a0 Z = true) {kI : Nat} (wi : (Jvm.Cond.instantiable ST kI).before a0 Z = true)
    {x b : Addr} {k : ClassId} {zn z : Int32} {cs : List Int32} {dv v0 c0 : Value} (E : RoadKit.Exa Z h x ST) (V : RoadKit.Fld Z h x ST "value" "[B" v0) (C : RoadKit.Fld Z h x ST "coder" "B" c0) (K : RoadKit.Arv Z h b k .char zn (cs.map Value.int) dv) (S : RoadKit.Sta Z h ST "COMPACT_STRINGS" "Z" (.int z)) (hz : ¬ z = 0)
    (hlen : zn.toNatClampNeg = cs.length) (h0 : 0 < cs.length) (hbig : cs.length ≤ 536870912) (hall : ∀ c ∈ cs, ¬ 255 < c) (hfr : 4 ≤ R.frames) (hlo : W + 65 ≤ R.locals) :
    Back l R p e below s args New1.yN len W (fun P a => a = #[.ref x, .ref b] ∧ P.U.heap = h ∧ P.cells + 1 ≤ R.cells ∧ P.slots + cs.length ≤ R.slots)
      (fun P _ v B => ∃ L, QA Z x zn cs h v B.U.heap L ∧ B.locs = P.locs ++ L ∧ B.cells = P.cells + 1 ∧ B.slots = P.slots + cs.length) := by
  obtain ⟨A, K1, K2, K3, K4, K5, K6⟩ := K
  have e : A.slots.size = cs.length := K3.trans hlen
  have hat : ∀ (i : Nat) (hi : i < cs.length), A.slots[i]? = some (.int cs[i]) := fun i hi => by rw [K5 i (by omega)]; simp [List.getD_eq_getElem?_getD, hi]
  have hcv : ∀ (i : Nat) (hi : i < cs.length), cv A i = cs[i] := fun i hi => by unfold cv; rw [hat i hi]
  have hty : Typed .char A := fun i v hv => by
    have hi : i < A.slots.size := (Array.getElem?_eq_some_iff.mp hv).1
    have q := K5 i hi
    rw [hv] at q
    rw [Option.some.inj q]
    exact K6 i hi
  refine Back.mono (back hZ hw wi E V C K1 hty S hz (by omega) (by omega) (fun i hi => by rw [hcv i (by omega)]; exact hall _ (List.getElem_mem _)) hfr hlo) (fun P a hp => ⟨hp.1, hp.2.1, hp.2.2.1, by rw [e]; exact hp.2.2.2⟩) (fun P a v B hp hq => ?_)
  obtain ⟨L, ⟨q1, q2, q3, q4, q5, q6, q7, ⟨V', v1, v2, v3, v4, v5⟩, q9⟩, hl, hc, hs⟩ := hq
  refine ⟨L, ⟨q1, q2, q3, q4, q5, q6, q7, ⟨V'.cls, v3, V', v1, rfl, by rw [v4, e, hlen], K4, fun i hi => ?_, fun i hi => ?_⟩, q9⟩, hl, hc, by rw [hs, e]⟩
  · have hi' : i < cs.length := by omega
    rw [v5 i (by omega), hcv i hi']; simp [List.getD_eq_getElem?_getD, hi']
  · have hi' : i < cs.length := by omega
    simp only [List.getD_eq_getElem?_getD, List.getElem?_map, List.getElem?_eq_getElem hi', Option.map_some, Option.getD_some]
    exact fits_lo8 _
end StrChars.Road
namespace StrChars.Road
open Jvm Sem ClassFile Op Lib Jvm.Stand Jvm.Free Jvm.Free.XT
/-- WHAT COMES BACK, in the writer's own shape -/
def QV (Z : State) (x : Addr) (N : Int32) (bs : List Int32) (h : Heap) (n0 : Nat) (v : Option Value) (h' : Heap) (L : List Loc) : Prop := v = none ∧ RoadKit.Fr n0 L ∧ RoadKit.Keep h h' [x] ∧ RoadKit.Exa Z h' x ST ∧ RoadKit.Fld Z h' x ST "coder" "B" (.int 0) ∧
  ∃ (t : Addr) (kb : ClassId), n0 ≤ t ∧ h.size ≤ t ∧ ¬ t = x ∧ RoadKit.Fld Z h' x ST "value" "[B" (.ref t) ∧ RoadKit.Arv Z h' t kb .byte N (bs.map Value.int) (.int 0)
/-- **new String(chars) AT A CALL, FOR THE WRITER**: a char[] of n known ints, each 0 to 255 -/
theorem backV {p : Program} {l : Launch} {e : Env} {R : Room} {s : State} {args : Array Value} {below : List Frame} {len W : Nat} {Z : State} {a0 : Array Value} {h : Heap} (hZ : Z.Warmed39 s.vm) (hw : ∀ d ∈ words, d.before a0 Z = true) {kI : Nat} (wi : (Jvm.Cond.instantiable ST kI).before a0 Z = true)
    {x b : Addr} {kC : ClassId} {cs bs : List Int32} {d v0 c0 : Value} {z N : Int32} {n n0 : Nat} (hx0 : n0 ≤ x) (hh0 : n0 ≤ h.size) (E : RoadKit.Exa Z h x ST) (V : RoadKit.Fld Z h x ST "value" "[B" v0) (C : RoadKit.Fld Z h x ST "coder" "B" c0) (K : RoadKit.Arv Z h b kC .char N (cs.map Value.int) d) (S : RoadKit.Sta Z h ST "COMPACT_STRINGS" "Z" (.int z)) (hz : ¬ z = 0)
    (hn : cs.length = n) (hN : N = Int32.ofNat n) (l0 : 0 < n) (l2 : n ≤ 4000) (hp : ∀ c ∈ cs, ¬ c < 0 ∧ ¬ (255 : Int32) < c) (hb : bs = cs.map (fun c => c.toInt8.toInt32)) (hfr : 4 ≤ R.frames) (hlo : W + 65 ≤ R.locals) :
    Back l R p e below s args (⟨"java/lang/String", "<init>", "([C)V"⟩ : MethodName) len W (fun P a => a = #[.ref x, .ref b] ∧ P.U.heap = h ∧ P.cells + 1 ≤ R.cells ∧ P.slots + n ≤ R.slots)
      (fun P _ v B => ∃ L, QV Z x N bs h n0 v B.U.heap L ∧ B.locs = P.locs ++ L ∧ B.cells = P.cells + 1 ∧ B.slots = P.slots + n) := by
  subst hn hN hb
  refine Back.mono (backArv hZ hw wi E V C K S hz (n32 (by omega)) l0 (by omega) (fun c hc => (hp c hc).2) hfr hlo) (fun P a hp => hp) (fun P a v B hp hq => ?_)
  obtain ⟨L, ⟨q1, q2, q3, q4, q5, q6, q7, ⟨kb, v1, v2⟩, q9⟩, hl, hc, hs⟩ := hq
  exact ⟨L, ⟨q1, fun y hy => by rw [q2 y hy]; exact hx0, q3, q5, q7, h.size, kb, hh0, Nat.le_refl _, Nat.ne_of_gt E.lt, q6, by rw [List.map_map]; exact v2⟩, hl, hc, hs⟩
end StrChars.Road
namespace StrChars
open Jvm Sem ClassFile Op Lib Jvm.Stand Jvm.Free.XT Jvm.Free.ALB Jvm.Free.JM Jvm.Free
open Jvm.Lib.Cold (StaticIs)
def hi8 (x : Int32) : Int32 := lo8 (x >>> ((8 : Int32) &&& 31))
/-- what StringUTF16.getChar makes of two bytes -/
def pairCh (u v : Int32) : Int32 := (((u &&& 255) <<< ((0 : Int32) &&& 31)) ||| ((v &&& 255) <<< ((8 : Int32) &&& 31))).toUInt32.toUInt16.toUInt32.toInt32
theorem shr0 (c : Int32) : c >>> ((0 : Int32) &&& 31) = c := by
  have e : ((0 : Int32) &&& 31) = 0 := by decide
  rw [e]
  apply Int32.toBitVec_inj.mp
  rw [Int32.toBitVec_shiftRight]
  have e1 : ((0 : Int32).toBitVec.smod 32) = 0#32 := by decide
  rw [e1, BitVec.sshiftRight_eq']
  exact BitVec.sshiftRight_zero
theorem lo8_and (x : Int32) : (lo8 x &&& 255).toBitVec.toNat = x.toBitVec.toNat % 256 := by
  have h : (lo8 x).toBitVec = (x.toBitVec.signExtend 8).signExtend 32 := by rw [lo8, Int8.toBitVec_toInt32, Int32.toBitVec_toInt8]
  rw [Int32.toBitVec_and, BitVec.toNat_and, h]
  have e : ((x.toBitVec.signExtend 8).signExtend 32).toNat % 256 = x.toBitVec.toNat % 256 := by
    rw [BitVec.toNat_signExtend]
    have hlt := x.toBitVec.isLt
    simp only [BitVec.toNat_setWidth, BitVec.toNat_signExtend]
    split <;> split <;> omega
  rw [← e]
  exact Nat.and_two_pow_sub_one_eq_mod _ 8
theorem pair_says {c : Int32} (h0 : ¬ c < 0) (h1 : ¬ 65535 < c) : pairCh (lo8 c) (hi8 c) = c := by
  rw [Int32.lt_iff_toInt_lt] at h0 h1
  have e0 : (0 : Int32).toInt = 0 := rfl
  have e1 : (65535 : Int32).toInt = 65535 := rfl
  have hc : c.toInt = c.toBitVec.toNat := by
    have := c.toBitVec.isLt
    have e : c.toInt = c.toBitVec.toInt := rfl
    rw [e] at h0 h1
    rw [e]
    rw [BitVec.toInt_eq_toNat_cond] at h0 h1 ⊢
    split at h0 <;> split <;> omega
  have hn : c.toBitVec.toNat < 65536 := by omega
  have a1 := lo8_and c
  have a2 : (hi8 c &&& 255).toBitVec.toNat = c.toBitVec.toNat / 256 := by
    rw [hi8, lo8_and]
    have e : ((8 : Int32) &&& 31) = 8 := by decide
    rw [e, Int32.toBitVec_shiftRight]
    have e2 : ((8 : Int32).toBitVec.smod 32) = 8#32 := by decide
    rw [e2, BitVec.sshiftRight_eq', BitVec.toNat_sshiftRight_of_msb_false (by rw [BitVec.msb_eq_false_iff_two_mul_lt]; omega)]
    show c.toBitVec.toNat >>> 8 % 256 = _
    rw [Nat.shiftRight_eq_div_pow]
    omega
  unfold pairCh
  apply Int32.toBitVec_inj.mp
  apply BitVec.eq_of_toNat_eq
  have f0 : ((0 : Int32) &&& 31) = 0 := by decide
  have f8 : ((8 : Int32) &&& 31) = 8 := by decide
  rw [f0, f8]
  have g : (((lo8 c &&& 255) <<< (0 : Int32)) ||| ((hi8 c &&& 255) <<< (8 : Int32))).toBitVec.toNat = c.toBitVec.toNat := by
    rw [Int32.toBitVec_or, Int32.toBitVec_shiftLeft, Int32.toBitVec_shiftLeft]
    have s0 : ((0 : Int32).toBitVec.smod 32) = 0#32 := by decide
    have s8 : ((8 : Int32).toBitVec.smod 32) = 8#32 := by decide
    rw [s0, s8, BitVec.toNat_or]
    simp only [BitVec.shiftLeft_eq', BitVec.toNat_shiftLeft, a1, a2]
    show (c.toBitVec.toNat % 256) <<< 0 % 2 ^ 32 ||| (c.toBitVec.toNat / 256) <<< 8 % 2 ^ 32 = _
    rw [Nat.shiftLeft_zero, Nat.mod_eq_of_lt (show c.toBitVec.toNat % 256 < 2 ^ 32 by omega), Nat.mod_eq_of_lt (show (c.toBitVec.toNat / 256) <<< 8 < 2 ^ 32 by rw [Nat.shiftLeft_eq]; omega), Nat.or_comm, ← Nat.shiftLeft_add_eq_or_of_lt (by omega), Nat.shiftLeft_eq]
    omega
  show BitVec.toNat (((((lo8 c &&& 255) <<< (0 : Int32)) ||| ((hi8 c &&& 255) <<< (8 : Int32))).toBitVec.setWidth 16).setWidth 32) = _
  rw [BitVec.toNat_setWidth, BitVec.toNat_setWidth, g]
  omega
end StrChars
namespace StrChars
open Jvm Sem ClassFile Op Lib Jvm.Stand Jvm.Free.XT Jvm.Free.ALB Jvm.Free.JM Jvm.Free
open Jvm.Lib.Cold (StaticIs)
theorem shr1 {n : Nat} (h : 2 * n < 2 ^ 31) : Int32.ofNat (2 * n) >>> ((1 : Int32) &&& 31) = Int32.ofNat n := by
  have e : ((1 : Int32) &&& 31) = 1 := by decide
  rw [e]
  apply Int32.toBitVec_inj.mp
  rw [Int32.toBitVec_shiftRight]
  have e1 : ((1 : Int32).toBitVec.smod 32) = 1#32 := by decide
  have hm : (BitVec.ofNat 32 (2 * n)).toNat = 2 * n := by rw [BitVec.toNat_ofNat, Nat.mod_eq_of_lt (by omega)]
  rw [e1, BitVec.sshiftRight_eq']
  apply BitVec.eq_of_toNat_eq
  show ((BitVec.ofNat 32 (2 * n)).sshiftRight 1).toNat = (BitVec.ofNat 32 n).toNat
  rw [BitVec.toNat_sshiftRight_of_msb_false (by rw [BitVec.msb_eq_false_iff_two_mul_lt, hm]; omega), hm, BitVec.toNat_ofNat, Nat.shiftRight_eq_div_pow]
  omega
/-- charAt's cast of a byte read back -/
def chr8 (u : Int32) : Int32 := (u &&& 255).toUInt32.toUInt16.toUInt32.toInt32
theorem chr8_lo8 {c : Int32} (h0 : ¬ c < 0) (h1 : ¬ 255 < c) : chr8 (lo8 c) = c := by
  have t : ∀ k : Fin 256, (Int32.ofNat k.val).toUInt32.toUInt16.toUInt32.toInt32 = Int32.ofNat k.val := by decide +kernel
  unfold chr8
  rw [lo8_mask h0 h1]
  rw [Int32.lt_iff_toInt_lt] at h0 h1
  have e0 : (0 : Int32).toInt = 0 := rfl
  have e1 : (255 : Int32).toInt = 255 := rfl
  obtain ⟨k, hk⟩ : ∃ k : Nat, c.toInt = k := ⟨c.toInt.toNat, by omega⟩
  have hx : c = Int32.ofNat k := Int32.toInt_inj.mp (by rw [hk, Int32.toInt_ofNat_small (by omega)])
  rw [hx]
  exact t ⟨k, by omega⟩
theorem narrow_ch {c : Int32} (h0 : ¬ c < 0) (h1 : ¬ 65535 < c) : narrow .char (.int c) = .int c := by
  have q : narrow .char (.int (pairCh (lo8 c) (hi8 c))) = .int (pairCh (lo8 c) (hi8 c)) := narrow_c _
  rwa [pair_says h0 h1] at q
/-- the array's cell V codes the n chars f 0 .. f (n - 1) by the coder cd, as the JDK does: coder 1 just where some char is above 255 -/
def Cod (cd : Int32) (n : Nat) (f : Nat → Int32) (V : Cell) : Prop := (cd = 0 ∧ V.slots.size = n ∧ ∀ j, j < n → V.slots[j]? = some (.int (lo8 (f j))) ∧ ¬ 255 < f j) ∨ (cd = 1 ∧ V.slots.size = 2 * n ∧ (∀ j, j < n → V.slots[2 * j]? = some (.int (lo8 (f j))) ∧ V.slots[2 * j + 1]? = some (.int (hi8 (f j)))) ∧ ∃ j, j < n ∧ 255 < f j)
theorem Cod.cd {cd : Int32} {n : Nat} {f : Nat → Int32} {V : Cell} (h : Cod cd n f V) : cd = 0 ∨ cd = 1 := h.imp (fun q => q.1) fun q => q.1
theorem Cod.len {cd : Int32} {n : Nat} {f : Nat → Int32} {V : Cell} (h : Cod cd n f V) (hs : V.slots.size < 2 ^ 31) : Int32.ofNat V.slots.size >>> (cd &&& 31) = Int32.ofNat n := by
  rcases h with ⟨rfl, h, -⟩ | ⟨rfl, h, -⟩
  · rw [shr0, h]
  · rw [h, shr1 (by omega)]
/-- **x is a String of the n chars f 0 .. f (n - 1)**, Latin-1 or UTF-16; its array at t has the cell V -/
def Txt (x t : Addr) (V : Cell) (cd : Int32) (n : Nat) (f : Nat → Int32) (U : State) : Prop := Exact "java/lang/String" x U ∧ Has x "java/lang/String" "value" "[B" (.ref t) U ∧ Has x "java/lang/String" "coder" "B" (.int cd) U ∧ XT.Arr .byte t V U ∧ Cod cd n f V ∧ ∀ j, j < n → ¬ f j < 0 ∧ ¬ 65535 < f j
theorem Txt.mv {x t : Addr} {V : Cell} {cd : Int32} {n : Nat} {f : Nat → Int32} {U U' : State} (h : Txt x t V cd n f U) (hal : U.vm.Alike U'.vm) (hh : U'.heap = U.heap) : Txt x t V cd n f U' := ⟨h.1.mv hal hh, h.2.1.mv hal hh, h.2.2.1.mv hal hh, h.2.2.2.1.mv hal hh, h.2.2.2.2⟩
namespace Cdr
def yN : MethodName := ⟨"java/lang/String", "coder", "()B"⟩
abbrev yB : ByteArray := jdk_42_method_152_code
theorem d0 : decode yB 0 = .ok (.getstatic 38, 3) := by decide +kernel
theorem d3 : decode yB 3 = .ok (.ifCond (.eq) 10, 3) := by decide +kernel
theorem d6 : decode yB 6 = .ok (.aload_n 0, 1) := by decide +kernel
theorem d7 : decode yB 7 = .ok (.getfield 15, 3) := by decide +kernel
theorem d10 : decode yB 10 = .ok (.goto 4, 3) := by decide +kernel
theorem d14 : decode yB 14 = .ok (.ireturn, 1) := by decide +kernel
def site : List Cond := [.fieldLink "java/lang/String" 38 "java/lang/String" "COMPACT_STRINGS" "Z", .fieldLink "java/lang/String" 15 "java/lang/String" "coder" "B"]
def tab : Cond := tabOf yN yB 1 (some .byte) site
def P (x : Addr) (cd z : Int32) (args : Array Value) (s : State) : Prop := args = #[.ref x] ∧ Has x "java/lang/String" "coder" "B" (.int cd) s ∧ (cd = 0 ∨ cd = 1) ∧ StaticIs s "java/lang/String" "COMPACT_STRINGS" "Z" (.int z) ∧ ¬ z = 0
def E (cd : Int32) (r : Option Value) (s u : State) : Prop := XT.PureE (some (.int cd)) r s u
theorem law (l : Launch) (x : Addr) (cd z : Int32) : Law l yN 1 0 0 0 yB 1 (some .byte) site (P x cd z) (E cd) [] 0 0 := by
  refine Law.of_walk (plainFor_of_name (by decide +kernel)) (by decide +kernel) (by decide +kernel) (by decide) (fun _ _ h => by rw [h.1]; rfl) (fun _ U U' hal hh h => ⟨h.1, h.2.1.mv hal hh, h.2.2.1, h.2.2.2.1.there hal hh, h.2.2.2.2⟩) (fun r U U' V V' h1 hal h2 h => XT.PureE.mv r U U' V V' h1 hal h2 h) ?_
  intro p e s m args below meth c s₁ X0 hexec hbytes hml hret hlk hnm hown hh0 W hP
  obtain ⟨rfl, hx, hc, s1, hz⟩ := hP
  have c1 : Steps p.tables e below (s₁.setTop (entryFrame m #[.ref x] 1)) (s₁.setTop (mkF m 0 #[.val (.ref x)] [])) := entry rfl
  obtain ⟨T2, X2, q2, st2⟩ := X0.sget hexec hown (wk W (.fieldLink "java/lang/String" 38 "java/lang/String" "COMPACT_STRINGS" "Z")) s1 (fun _ _ h => by rw [hh0]; exact h) (g := (mkF m 0 #[.val (.ref x)] [])) rfl (hb hbytes d0)
  have hh2 := q2.trans hh0
  have c3 : Steps p.tables e below (s₁.setTop (entryFrame m #[.ref x] 1)) (T2.setTop (mkF m 7 #[.val (.ref x)] [.ref x])) := (c1.trans (st2 _ (Steps.refl _))).trans (by
    refine XS.ifNo X2.here hexec rfl (hb hbytes d3) rfl (i0_eq_f hz) ?_
    refine XS.aloadN X2.here hexec rfl (hb hbytes d6) rfl rfl ?_
    exact Steps.refl _)
  obtain ⟨T4, X4, q4, st4⟩ := X2.hget hexec hown (wk W (.fieldLink "java/lang/String" 15 "java/lang/String" "coder" "B")) (hx.mv X2.warmed.alike hh2) (g := (mkF m 7 #[.val (.ref x)] [.ref x])) rfl (rest := []) rfl (hb hbytes d7)
  have c5 : Steps p.tables e below (s₁.setTop (entryFrame m #[.ref x] 1)) (T4.setTop (mkF m 14 #[.val (.ref x)] [.int cd])) := (c3.trans (st4 _ (Steps.refl _))).trans (by
    refine XS.goto X4.here hexec rfl (pc0 := 10) rfl (hb hbytes d10) (by decide) rfl ?_
    exact Steps.refl _)
  exact ⟨T4, some (.int cd), _, _, _, X4, rfl, rfl, rfl, (fun h => by cases h), ⟨rfl, q4.trans hh2⟩, fun fs hl => c5.trans (X4.ireturnOut hexec hret (by rcases hc with rfl | rfl <;> rfl) (Or.inr (Or.inr (Or.inl rfl))) (hb hbytes d14) hl)⟩
end Cdr
namespace Len
def yN : MethodName := ⟨"java/lang/String", "length", "()I"⟩
abbrev yB : ByteArray := jdk_42_method_54_code
theorem d0 : decode yB 0 = .ok (.aload_n 0, 1) := by decide +kernel
theorem d1 : decode yB 1 = .ok (.getfield 9, 3) := by decide +kernel
theorem d4 : decode yB 4 = .ok (.arraylength, 1) := by decide +kernel
theorem d5 : decode yB 5 = .ok (.aload_n 0, 1) := by decide +kernel
theorem d6 : decode yB 6 = .ok (.invokevirtual 335, 3) := by decide +kernel
theorem d9 : decode yB 9 = .ok (.ishr, 1) := by decide +kernel
theorem d10 : decode yB 10 = .ok (.ireturn, 1) := by decide +kernel
def site : List Cond := [.fieldLink "java/lang/String" 9 "java/lang/String" "value" "[B", Cdr.tab] ++ virtW "java/lang/String" 335 "java/lang/String" Cdr.yN Cdr.yN
def tab : Cond := tabOf yN yB 1 (some .int) site
def P (x t : Addr) (V : Cell) (cd : Int32) (n : Nat) (f : Nat → Int32) (z : Int32) (args : Array Value) (s : State) : Prop := args = #[.ref x] ∧ Txt x t V cd n f s ∧ StaticIs s "java/lang/String" "COMPACT_STRINGS" "Z" (.int z) ∧ ¬ z = 0
def E (n : Nat) (r : Option Value) (s u : State) : Prop := XT.PureE (some (.int (Int32.ofNat n))) r s u
/-- length() of a String of n chars, in either coding -/
theorem law (l : Launch) (x t : Addr) (V : Cell) (cd : Int32) (n : Nat) (f : Nat → Int32) (z : Int32) : Law l yN 1 0 1 13 yB 1 (some .int) site (P x t V cd n f z) (E n) [] 0 0 := by
  refine Law.of_walk (plainFor_of_name (by decide +kernel)) (by decide +kernel) (by decide +kernel) (by decide) (fun _ _ h => by rw [h.1]; rfl) (fun _ U U' hal hh h => ⟨h.1, h.2.1.mv hal hh, h.2.2.1.there hal hh, h.2.2.2⟩) (fun r U U' V V' h1 hal h2 h => XT.PureE.mv r U U' V V' h1 hal h2 h) ?_
  intro p e s m args below meth c s₁ X0 hexec hbytes hml hret hlk hnm hown hh0 W hP
  obtain ⟨rfl, hx, s1, hz⟩ := hP
  have v31 := hx.2.2.2.1.2.2.2
  have c1 : Steps p.tables e below (s₁.setTop (entryFrame m #[.ref x] 1)) (s₁.setTop (mkF m 1 #[.val (.ref x)] [.ref x])) := Steps.trans (entry rfl) (by
    show Steps p.tables e below (s₁.setTop (mkF m 0 #[.val (.ref x)] [])) _
    refine XS.aloadN X0.here hexec rfl (hb hbytes d0) rfl rfl ?_
    exact Steps.refl _)
  obtain ⟨T2, X2, q2, st2⟩ := X0.hget hexec hown (wk W (.fieldLink "java/lang/String" 9 "java/lang/String" "value" "[B")) (hx.mv X0.warmed.alike hh0).2.1 (g := (mkF m 1 #[.val (.ref x)] [.ref x])) rfl (rest := []) rfl (hb hbytes d1)
  have hh2 := q2.trans hh0
  have hx2 := hx.mv X2.warmed.alike hh2
  have c3 : Steps p.tables e below (s₁.setTop (entryFrame m #[.ref x] 1)) (T2.setTop (mkF m 6 #[.val (.ref x)] [.ref x, .int (Int32.ofNat V.slots.size)])) := (c1.trans (st2 _ (Steps.refl _))).trans (by
    refine X2.alen hexec hx2.2.2.2.1 rfl rfl (hb hbytes d4) ?_
    refine XS.aloadN X2.here hexec rfl (hb hbytes d5) rfl rfl ?_
    exact Steps.refl _)
  obtain ⟨v4, T4, X4, E4, g4⟩ := X2.callV hexec (Cdr.law l x cd z) hown (wks W (virtW "java/lang/String" 335 "java/lang/String" Cdr.yN Cdr.yN)) rfl (by decide) (wk W Cdr.tab) (W := 1) (Nat.le_of_ble_eq_true rfl) (Nat.le_of_ble_eq_true rfl) (Nat.le_refl _) (Nat.le_refl _) (hx2.1.fc X2.warmed.alike) hx2.1.is (g := (mkF m 6 #[.val (.ref x)] [.ref x, .int (Int32.ofNat V.slots.size)])) rfl (by rw [hml]; rfl) c3 (argsL := []) (rest := [.int (Int32.ofNat V.slots.size)]) rfl rfl (by show 2 * 0 + (1 + 0) ≤ _; decide) (hb hbytes d6) (⟨rfl, hx2.2.2.1, hx.2.2.2.2.1.cd, s1.there X2.warmed.alike hh2, hz⟩)
  obtain ⟨rfl, q4⟩ := E4
  have c5 : Steps p.tables e below (s₁.setTop (entryFrame m #[.ref x] 1)) (T4.setTop (mkF m 10 #[.val (.ref x)] [.int (Int32.ofNat V.slots.size >>> (cd &&& 31))])) := Steps.trans g4 (by
    refine ishr X4.here hexec rfl (hb hbytes d9) rfl ?_
    exact Steps.refl _)
  rw [hx.2.2.2.2.1.len v31] at c5
  exact ⟨T4, some (.int (Int32.ofNat n)), _, _, _, X4, rfl, rfl, rfl, (fun h => by cases h), ⟨rfl, q4.trans hh2⟩, fun fs hl => c5.trans (X4.ireturnOut hexec hret rfl (Or.inl rfl) (hb hbytes d10) hl)⟩
theorem pays {l : Launch} {R : Room} {p : Program} {e : Env} {below : List Frame} {s : State} {sargs : Array Value} {len W : Nat} (x t : Addr) (V : Cell) (cd : Int32) (n : Nat) (f : Nat → Int32) (z : Int32) (htab : tab.before sargs s = true) (hfr : 2 ≤ R.frames) (hlo : W + 25 ≤ R.locals) :
    Back l R p e below s sargs yN len W (fun A₁ a₁ => A₁.cells + 0 ≤ R.cells ∧ A₁.slots + 0 ≤ R.slots ∧ P x t V cd n f z a₁ A₁.U) (fun A₁ _ v₁ B₁ => E n v₁ A₁.U B₁.U ∧ B₁.locs = A₁.locs ++ [] ∧ B₁.cells = A₁.cells + 0 ∧ B₁.slots = A₁.slots + 0) :=
  (law l x t V cd n f z).pays htab hfr (by omega)
end Len
namespace IsL
def yN : MethodName := ⟨"java/lang/String", "isLatin1", "()Z"⟩
abbrev yB : ByteArray := jdk_42_method_154_code
theorem d0 : decode yB 0 = .ok (.getstatic 38, 3) := by decide +kernel
theorem d3 : decode yB 3 = .ok (.ifCond (.eq) 14, 3) := by decide +kernel
theorem d6 : decode yB 6 = .ok (.aload_n 0, 1) := by decide +kernel
theorem d7 : decode yB 7 = .ok (.getfield 15, 3) := by decide +kernel
theorem d10 : decode yB 10 = .ok (.ifCond (.ne) 7, 3) := by decide +kernel
theorem d13 : decode yB 13 = .ok (.iconst 1, 1) := by decide +kernel
theorem d14 : decode yB 14 = .ok (.goto 4, 3) := by decide +kernel
theorem d17 : decode yB 17 = .ok (.iconst 0, 1) := by decide +kernel
theorem d18 : decode yB 18 = .ok (.ireturn, 1) := by decide +kernel
def site : List Cond := [.fieldLink "java/lang/String" 38 "java/lang/String" "COMPACT_STRINGS" "Z", .fieldLink "java/lang/String" 15 "java/lang/String" "coder" "B"]
def tab : Cond := tabOf yN yB 1 (some .boolean) site
def P (x : Addr) (cd z : Int32) (args : Array Value) (s : State) : Prop := args = #[.ref x] ∧ Has x "java/lang/String" "coder" "B" (.int cd) s ∧ (cd = 0 ∨ cd = 1) ∧ StaticIs s "java/lang/String" "COMPACT_STRINGS" "Z" (.int z) ∧ ¬ z = 0
def E (cd : Int32) (r : Option Value) (s u : State) : Prop := XT.PureE (some (.int (1 - cd))) r s u
theorem law (l : Launch) (x : Addr) (cd z : Int32) : Law l yN 1 0 0 0 yB 1 (some .boolean) site (P x cd z) (E cd) [] 0 0 := by
  refine Law.of_walk (plainFor_of_name (by decide +kernel)) (by decide +kernel) (by decide +kernel) (by decide) (fun _ _ h => by rw [h.1]; rfl) (fun _ U U' hal hh h => ⟨h.1, h.2.1.mv hal hh, h.2.2.1, h.2.2.2.1.there hal hh, h.2.2.2.2⟩) (fun r U U' V V' h1 hal h2 h => XT.PureE.mv r U U' V V' h1 hal h2 h) ?_
  intro p e s m args below meth c s₁ X0 hexec hbytes hml hret hlk hnm hown hh0 W hP
  obtain ⟨rfl, hx, hc, s1, hz⟩ := hP
  have c1 : Steps p.tables e below (s₁.setTop (entryFrame m #[.ref x] 1)) (s₁.setTop (mkF m 0 #[.val (.ref x)] [])) := entry rfl
  obtain ⟨T2, X2, q2, st2⟩ := X0.sget hexec hown (wk W (.fieldLink "java/lang/String" 38 "java/lang/String" "COMPACT_STRINGS" "Z")) s1 (fun _ _ h => by rw [hh0]; exact h) (g := (mkF m 0 #[.val (.ref x)] [])) rfl (hb hbytes d0)
  have hh2 := q2.trans hh0
  have c3 : Steps p.tables e below (s₁.setTop (entryFrame m #[.ref x] 1)) (T2.setTop (mkF m 7 #[.val (.ref x)] [.ref x])) := (c1.trans (st2 _ (Steps.refl _))).trans (by
    refine XS.ifNo X2.here hexec rfl (hb hbytes d3) rfl (i0_eq_f hz) ?_
    refine XS.aloadN X2.here hexec rfl (hb hbytes d6) rfl rfl ?_
    exact Steps.refl _)
  obtain ⟨T4, X4, q4, st4⟩ := X2.hget hexec hown (wk W (.fieldLink "java/lang/String" 15 "java/lang/String" "coder" "B")) (hx.mv X2.warmed.alike hh2) (g := (mkF m 7 #[.val (.ref x)] [.ref x])) rfl (rest := []) rfl (hb hbytes d7)
  have c5 : Steps p.tables e below (s₁.setTop (entryFrame m #[.ref x] 1)) (T4.setTop (mkF m 10 #[.val (.ref x)] [.int cd])) := c3.trans (st4 _ (Steps.refl _))
  have c6 : Steps p.tables e below (s₁.setTop (entryFrame m #[.ref x] 1)) (T4.setTop (mkF m 18 #[.val (.ref x)] [.int (1 - cd)])) := by
    rcases hc with rfl | rfl
    · exact c5.trans (by
        refine XS.ifNo X4.here hexec rfl (hb hbytes d10) rfl (i0_ne_f rfl) ?_
        refine iconstV X4.here hexec rfl 1 (hb hbytes d13) (by decide) ?_
        refine XS.goto X4.here hexec rfl (pc0 := 14) rfl (hb hbytes d14) (by decide) rfl ?_
        exact Steps.refl _)
    · exact c5.trans (by
        refine XS.ifYes X4.here hexec rfl (pc0 := 10) rfl (hb hbytes d10) rfl (i0_ne_t (by decide)) (by decide) rfl ?_
        refine iconstV X4.here hexec rfl 0 (hb hbytes d17) (by decide) ?_
        exact Steps.refl _)
  exact ⟨T4, some (.int (1 - cd)), _, _, _, X4, rfl, rfl, rfl, (fun h => by cases h), ⟨rfl, q4.trans hh2⟩, fun fs hl => c6.trans (X4.ireturnOut hexec hret (by rcases hc with rfl | rfl <;> rfl) (Or.inr (Or.inl rfl)) (hb hbytes d18) hl)⟩
end IsL
namespace LChA
def yN : MethodName := ⟨"java/lang/StringLatin1", "charAt", "([BI)C"⟩
abbrev yB : ByteArray := jdk_43_method_2_code
theorem d0 : decode yB 0 = .ok (.iload_n 1, 1) := by decide +kernel
theorem d1 : decode yB 1 = .ok (.aload_n 0, 1) := by decide +kernel
theorem d2 : decode yB 2 = .ok (.arraylength, 1) := by decide +kernel
theorem d3 : decode yB 3 = .ok (.invokestatic 9, 3) := by decide +kernel
theorem d6 : decode yB 6 = .ok (.aload_n 0, 1) := by decide +kernel
theorem d7 : decode yB 7 = .ok (.iload_n 1, 1) := by decide +kernel
theorem d8 : decode yB 8 = .ok (.baload, 1) := by decide +kernel
theorem d9 : decode yB 9 = .ok (.sipush 255, 3) := by decide +kernel
theorem d12 : decode yB 12 = .ok (.iand, 1) := by decide +kernel
theorem d13 : decode yB 13 = .ok (.i2c, 1) := by decide +kernel
theorem d14 : decode yB 14 = .ok (.ireturn, 1) := by decide +kernel
def site : List Cond := [JO.Str_checkIndex.tab] ++ staticW "java/lang/StringLatin1" 9 JO.Str_checkIndex.yN
def tab : Cond := tabOf yN yB 2 (some .char) site
def P (t : Addr) (V : Cell) (i : Nat) (u : Int32) (fm : Value) (args : Array Value) (s : State) : Prop := args = #[.ref t, .int (Int32.ofNat i)] ∧ XT.Arr .byte t V s ∧ V.slots[i]? = some (.int u) ∧ (StaticIs s "jdk/internal/util/Preconditions" "SIOOBE_FORMATTER" "Ljava/util/function/BiFunction;" fm ∧ fm.isRef = true)
def E (u : Int32) (r : Option Value) (s w : State) : Prop := XT.PureE (some (.int (chr8 u))) r s w
theorem law (l : Launch) (t : Addr) (V : Cell) (i : Nat) (u : Int32) (fm : Value) : Law l yN 2 2 2 27 yB 2 (some .char) site (P t V i u fm) (E u) [] 0 0 := by
  refine Law.of_walk (plainFor_of_name (by decide +kernel)) (by decide +kernel) (by decide +kernel) (by decide) (fun _ _ h => by rw [h.1]; rfl) (fun _ U U' hal hh h => ⟨h.1, h.2.1.mv hal hh, h.2.2.1, h.2.2.2.1.there hal hh, h.2.2.2.2⟩) (fun r U U' V V' h1 hal h2 h => XT.PureE.mv r U U' V V' h1 hal h2 h) ?_
  intro p e s m args below meth c s₁ X0 hexec hbytes hml hret hlk hnm hown hh0 W hP
  obtain ⟨rfl, hV, hu, s1, rf⟩ := hP
  have v31 := hV.2.2.2
  have hi : i < V.slots.size := (Array.getElem?_eq_some_iff.mp hu).1
  have c1 : Steps p.tables e below (s₁.setTop (entryFrame m #[.ref t, .int (Int32.ofNat i)] 2)) (s₁.setTop (mkF m 0 #[.val (.ref t), .val (.int (Int32.ofNat i))] [])) := entry rfl
  have c2 : Steps p.tables e below (s₁.setTop (entryFrame m #[.ref t, .int (Int32.ofNat i)] 2)) (s₁.setTop (mkF m 3 #[.val (.ref t), .val (.int (Int32.ofNat i))] [.int (Int32.ofNat V.slots.size), .int (Int32.ofNat i)])) := c1.trans (by
    refine XS.iloadN X0.here hexec rfl (hb hbytes d0) rfl ?_
    refine XS.aloadN X0.here hexec rfl (hb hbytes d1) rfl rfl ?_
    refine X0.alen hexec (hV.mv X0.warmed.alike hh0) rfl rfl (hb hbytes d2) ?_
    exact Steps.refl _)
  obtain ⟨v3, T3, X3, E3, g3⟩ := X0.callS hexec (JO.Str_checkIndex.law l (Int32.ofNat i) (Int32.ofNat V.slots.size) fm) hown (wks W (staticW "java/lang/StringLatin1" 9 JO.Str_checkIndex.yN)) (wk W JO.Str_checkIndex.tab) (W := 0) (Nat.le_of_ble_eq_true rfl) (Nat.le_of_ble_eq_true rfl) (Nat.le_refl _) (Nat.le_refl _) (g := (mkF m 3 #[.val (.ref t), .val (.int (Int32.ofNat i))] [.int (Int32.ofNat V.slots.size), .int (Int32.ofNat i)])) rfl (by rw [hml]; rfl) c2 (argsL := [.int (Int32.ofNat i), .int (Int32.ofNat V.slots.size)]) (rest := []) rfl rfl (by show 2 * 0 + 0 ≤ _; decide) (hb hbytes d3) (⟨rfl, rf, s1.there X0.warmed.alike hh0, Int32.ofNat_not_neg (by omega), lt32 v31 hi⟩)
  obtain ⟨rfl, q3⟩ := E3
  have hh3 := q3.trans hh0
  have c4 : Steps p.tables e below (s₁.setTop (entryFrame m #[.ref t, .int (Int32.ofNat i)] 2)) (T3.setTop (mkF m 14 #[.val (.ref t), .val (.int (Int32.ofNat i))] [.int (chr8 u)])) := Steps.trans g3 (by
    refine XS.aloadN X3.here hexec rfl (hb hbytes d6) rfl rfl ?_
    refine XS.iloadN X3.here hexec rfl (hb hbytes d7) rfl ?_
    refine X3.aget hexec (hV.mv X3.warmed.alike hh3) rfl hu rfl rfl (hb hbytes d8) ?_
    refine sipushV X3.here hexec rfl 255 (hb hbytes d9) (by decide) ?_
    refine XS.iand X3.here hexec rfl (hb hbytes d12) rfl ?_
    refine i2c X3.here hexec rfl (hb hbytes d13) rfl ?_
    exact Steps.refl _)
  exact ⟨T3, some (.int (chr8 u)), _, _, _, X3, rfl, rfl, rfl, (fun h => by cases h), ⟨rfl, hh3⟩, fun fs hl => c4.trans (X3.ireturnOut hexec hret (narrow_c _) (Or.inr (Or.inr (Or.inr (Or.inl rfl)))) (hb hbytes d14) hl)⟩
end LChA
end StrChars
namespace StrChars.Road
open Jvm Sem ClassFile Op Lib Jvm.Stand Jvm.Free Jvm.Free.XT
open Jvm.Lib.Cold (StaticIs)
theorem consq {a : Array Value} {s : State} {c : Jvm.Cond} {L : List Jvm.Cond} (h0 : c.before a s = true) (h : ∀ w ∈ L, w.before a s = true) : ∀ w ∈ c :: L, w.before a s = true := fun w hw => (List.mem_cons.mp hw).elim (fun e => e ▸ h0) (h w)
/-- the words of String.length(), either coding -/
abbrev wordsLen : List Jvm.Cond := [.code Len.yN Len.yB 1 (some .int), .initialized ST, .fieldLink ST 9 ST "value" "[B", .fieldLink ST 38 ST "COMPACT_STRINGS" "Z", .fieldLink ST 15 ST "coder" "B", .code Cdr.yN Cdr.yB 1 (some .byte), .methodLink ST 335 Cdr.yN, .declares Cdr.yN, .selects ST Cdr.yN Cdr.yN, .instanceMethod Cdr.yN]
theorem tabLen_of {a : Array Value} {s : State} (h : ∀ w ∈ wordsLen, w.before a s = true) : Len.tab.before a s = true := by
  have hc : Cdr.tab.before a s = true := unparts (wk h (.code Cdr.yN Cdr.yB 1 (some .byte))) (wks h (.initialized Cdr.yN.cls :: Cdr.site))
  have q := consq hc h
  exact unparts (wk q (.code Len.yN Len.yB 1 (some .int))) (wks q (.initialized Len.yN.cls :: Len.site))
theorem movedLen {Z s : State} {a0 args : Array Value} (hZ : Z.Warmed39 s.vm) (hw : ∀ d ∈ wordsLen, d.before a0 Z = true) : ∀ d ∈ wordsLen, d.before args s = true := fun d hd => by
  have q := hw d hd
  have t : ∀ d ∈ wordsLen, d = .arrayClass .byte ∨ (d.onTables && d.keepsFace) = true := by decide +kernel
  rcases t d hd with rfl | t
  · exact RoadKit.mvA hZ q
  · exact RoadKit.mv hZ q t
/-- the bytes of the chars cs, low before high -/
def wideBytes : List Int32 → List Value
  | [] => []
  | c :: cs => .int (lo8 c) :: .int (hi8 c) :: wideBytes cs
theorem wide_lo (d : Value) : ∀ (cs : List Int32) (j : Nat), j < cs.length → (wideBytes cs).getD (2 * j) d = .int (lo8 (cs.getD j 0))
  | [], j, h => absurd h (Nat.not_lt_zero j)
  | c :: cs, 0, _ => rfl
  | c :: cs, j + 1, h => by
    have q := wide_lo d cs j (by simpa using h)
    rw [show 2 * (j + 1) = 2 * j + 1 + 1 from by omega]
    simpa [wideBytes] using q
theorem wide_hi (d : Value) : ∀ (cs : List Int32) (j : Nat), j < cs.length → (wideBytes cs).getD (2 * j + 1) d = .int (hi8 (cs.getD j 0))
  | [], j, h => absurd h (Nat.not_lt_zero j)
  | c :: cs, 0, _ => rfl
  | c :: cs, j + 1, h => by
    have q := wide_hi d cs j (by simpa using h)
    rw [show 2 * (j + 1) + 1 = 2 * j + 1 + 1 + 1 from by omega]
    simpa [wideBytes] using q
theorem low_at (d : Value) (cs : List Int32) (j : Nat) (h : j < cs.length) : (cs.map fun c => Value.int (lo8 c)).getD j d = .int (lo8 (cs.getD j 0)) := by
  simp [List.getD_eq_getElem?_getD, h]
/-- an array of N2 bytes vs codes the chars cs by the coder cd -/
def CodA (cs : List Int32) (cd N2 : Int32) (vs : List Value) : Prop := (cd = 0 ∧ N2 = Int32.ofNat cs.length ∧ vs = (cs.map fun c => Value.int (lo8 c)) ∧ ∀ c ∈ cs, ¬ 255 < c) ∨ (cd = 1 ∧ N2 = Int32.ofNat (2 * cs.length) ∧ vs = wideBytes cs ∧ ∃ c ∈ cs, 255 < c)
theorem CodA.cod {cs : List Int32} {cd N2 : Int32} {vs : List Value} {V : Cell} (h : CodA cs cd N2 vs) (hn : 2 * cs.length < 2 ^ 31) (hs : V.slots.size = N2.toNatClampNeg) (hv : RoadKit.Has V vs (.int 0)) : Cod cd cs.length (fun j => cs.getD j 0) V := by
  rcases h with ⟨rfl, rfl, rfl, h⟩ | ⟨rfl, rfl, rfl, c, hc, hw⟩
  · rw [n32 (by omega)] at hs
    exact Or.inl ⟨rfl, hs, fun j hj => ⟨by rw [hv j (by omega), low_at _ _ _ hj], by
      have e : cs.getD j 0 = cs[j] := by simp [List.getD_eq_getElem?_getD, hj]
      show ¬ 255 < cs.getD j 0
      rw [e]; exact h _ (List.getElem_mem _)⟩⟩
  · rw [n32 (by omega)] at hs
    obtain ⟨j, hj, rfl⟩ := List.getElem_of_mem hc
    exact Or.inr ⟨rfl, hs, fun j hj => ⟨by rw [hv _ (by omega), wide_lo _ _ _ hj], by rw [hv _ (by omega), wide_hi _ _ _ hj]⟩, j, hj, by
      have e : cs.getD j 0 = cs[j] := by simp [List.getD_eq_getElem?_getD, hj]
      show 255 < cs.getD j 0
      rw [e]; exact hw⟩
/-- an object of exactly java/lang/String, its two fields found: as the laws ask it -/
theorem strObj {Z U : State} {a0 : Array Value} {kI : Nat} (wi : (Jvm.Cond.instantiable ST kI).before a0 Z = true) (al : Z.vm.Alike U.vm) {x : Addr} {v0 c0 : Value} (E : RoadKit.Exa Z U.heap x ST) (V : RoadKit.Fld Z U.heap x ST "value" "[B" v0) (C : RoadKit.Fld Z U.heap x ST "coder" "B" c0) :
    ∃ (D : Cell) (fV fC : Field), Blank ST x D U ∧ Found ST "value" "[B" fV U ∧ Found ST "coder" "B" fC U ∧ D.slots[fV.slot]? = some v0 ∧ D.slots[fC.slot]? = some c0 ∧ RoadKit.slotOf Z ST "value" "[B" = fV.slot ∧ RoadKit.slotOf Z ST "coder" "B" = fC.slot := by
  obtain ⟨D, cfV, kV, iV, fV, hD, gV, stV, knV, obV, asV, slV⟩ := V
  obtain ⟨D', cfC, kC, iC, fC, hD', gC, stC, -, -, asC, slC⟩ := C
  cases hD.symm.trans hD'
  obtain ⟨D2, kD, e1, e2, e3, e4, e5⟩ := E
  cases hD.symm.trans e1
  obtain ⟨c2, k2, i1, i2, i3, -⟩ := Cond.instantiable_spec wi
  cases e2.symm.trans i1
  cases e3.symm.trans i2
  obtain ⟨kU, u1, u2⟩ := al.2.2 _ _ e3
  exact ⟨D, fV, fC, ⟨hD, ⟨knV, fun q hq => by rw [hq] at obV; cases obV⟩, by rw [al.findClass]; exact e2, kU, u1, by rw [u2]; exact i3, by rw [u2]; exact e5 i3⟩, ⟨SBG.found_only al ⟨cfV, kV, iV, gV⟩, stV⟩, ⟨SBG.found_only al ⟨cfC, kC, iC, gC⟩, stC⟩, slV, slC, by simp [RoadKit.slotOf, gV], by simp [RoadKit.slotOf, gC]⟩
theorem sta_is {Z U : State} (al : Z.vm.Alike U.vm) {C n d : String} {v : Value} (S : RoadKit.Sta Z U.heap C n d v) : StaticIs U C n d v := by
  obtain ⟨cfS, iS, kS, fS, st, cS, t1, t2, t3, t4, t5, t6, t7⟩ := S
  exact StaticIs.there (s := { Z with heap := U.heap }) ⟨cfS, iS, kS, fS, st, cS, t1, t2, t3, t4, t5, (fun q => by rw [q] at t6; cases t6), t7⟩ al rfl
/-- **length() OF SUCH A STRING** -/
theorem lenW {p : Program} {l : Launch} {e : Env} {R : Room} {s : State} {args : Array Value} {below : List Frame} {len W : Nat} {Z : State} {a0 : Array Value} {h : Heap} (hZ : Z.Warmed39 s.vm) (hw : ∀ d ∈ wordsLen, d.before a0 Z = true) {kI : Nat} (wi : (Jvm.Cond.instantiable ST kI).before a0 Z = true)
    {x t : Addr} {kb : ClassId} {cs : List Int32} {cd N2 z : Int32} {vs : List Value} (E : RoadKit.Exa Z h x ST) (V : RoadKit.Fld Z h x ST "value" "[B" (.ref t)) (C : RoadKit.Fld Z h x ST "coder" "B" (.int cd)) (K : RoadKit.Arv Z h t kb .byte N2 vs (.int 0)) (hc : CodA cs cd N2 vs) (hb : ∀ c ∈ cs, ¬ c < 0 ∧ ¬ (65535 : Int32) < c)
    (S : RoadKit.Sta Z h ST "COMPACT_STRINGS" "Z" (.int z)) (hz : ¬ z = 0) (l2 : cs.length ≤ 4000) (hfr : 2 ≤ R.frames) (hlo : W + 25 ≤ R.locals) :
    Back l R p e below s args (⟨"java/lang/String", "length", "()I"⟩ : MethodName) len W (fun P a => a = #[.ref x] ∧ P.U.heap = h ∧ P.cells + 0 ≤ R.cells ∧ P.slots + 0 ≤ R.slots)
      (fun P _ v B => ∃ L, (v = some (.int (Int32.ofNat cs.length)) ∧ L = [] ∧ B.U.heap = h) ∧ B.locs = P.locs ++ L ∧ B.cells = P.cells + 0 ∧ B.slots = P.slots + 0) := by
  obtain ⟨A, K1, K2, K3, K4, K5, K6⟩ := K
  have hcod := hc.cod (by omega) K3 K5
  intro m meth c P g ig mk a X hg hsize hdg hW hn hp'
  obtain ⟨rfl, rfl, r1, r2⟩ := hp'
  have al : Z.vm.Alike P.U.vm := hZ.alike.trans X.warmed.alike
  obtain ⟨D, fV, fC, hB, F1, F2, g1, g2, -, -⟩ := strObj wi al E V C
  have hx : Txt x t A cd cs.length (fun j => cs.getD j 0) P.U := ⟨⟨_, hB.2.2.1, D, hB.1, rfl, by cases q : D.vm <;> first | rfl | exact absurd q (hB.2.1.2 _)⟩, Has.of hB F1 g1, Has.of hB F2 g2, ⟨K1.1, State.isArrayOf_alike al K1.2.1, K1.2.2, by rcases hcod with ⟨-, q, -⟩ | ⟨-, q, -⟩ <;> omega⟩, hcod, fun j hj => by
    have e : cs.getD j 0 = cs[j] := by simp [List.getD_eq_getElem?_getD, hj]
    show ¬ cs.getD j 0 < 0 ∧ ¬ 65535 < cs.getD j 0
    rw [e]; exact hb _ (List.getElem_mem _)⟩
  obtain ⟨v, B, X', ⟨⟨hv, hh⟩, hl, hk, hs⟩, st⟩ := Len.pays x t A cd cs.length (fun j => cs.getD j 0) z (tabLen_of (movedLen hZ hw)) hfr hlo m meth c P g ig mk _ X hg hsize hdg hW hn ⟨r1, r2, rfl, hx, sta_is al S, hz⟩
  exact ⟨v, B, X', ⟨[], ⟨hv, rfl, hh⟩, hl, hk, hs⟩, st⟩
end StrChars.Road
namespace StrChars
open Jvm Sem ClassFile Op Lib Jvm.Stand Jvm.Free.XT Jvm.Free.ALB Jvm.Free.JM Jvm.Free
open Jvm.Lib.Cold (StaticIs)
/-- what place i of a byte[]'s cell holds -/
def yv (A : Cell) (i : Nat) : Int32 := match A.slots[i]? with | some (.int x) => x | _ => 0
theorem yv_get {a : Addr} {A : Cell} {U : State} (h : XT.Arr .byte a A U) (ht : Typed .byte A) {i : Nat} (hi : i < A.slots.size) : A.slots[i]? = some (.int (yv A i)) := by
  have e := Array.getElem?_eq_getElem hi
  have f := ht i _ e
  unfold yv; rw [e]
  generalize A.slots[i] = v at f
  cases v <;> simp [fits] at f ⊢
/-- the two arrays are equal, place for place -/
def EqC (A B : Cell) : Prop := A.slots.size = B.slots.size ∧ ∀ i, i < A.slots.size → yv A i = yv B i
/-- a boolean that says whether p -/
def Says01 (q : Prop) (r : Option Value) (s u : State) : Prop := ∃ v : Int32, r = some (.int v) ∧ u.heap = s.heap ∧ ((v = 1 ∧ q) ∨ (v = 0 ∧ ¬ q))
theorem Says01.mv {q : Prop} : ∀ r (U U' V V' : State), U'.heap = U.heap → V.vm.Alike V'.vm → V'.heap = V.heap → Says01 q r U V → Says01 q r U' V' :=
  fun r U U' V V' h1 _ h2 ⟨v, a, b, c⟩ => ⟨v, a, by rw [h1, h2]; exact b, c⟩
namespace LEq
def yN : MethodName := ⟨"java/lang/StringLatin1", "equals", "([B[B)Z"⟩
abbrev yB : ByteArray := jdk_43_method_13_code
theorem d0 : decode yB 0 = .ok (.aload_n 0, 1) := by decide +kernel
theorem d1 : decode yB 1 = .ok (.arraylength, 1) := by decide +kernel
theorem d2 : decode yB 2 = .ok (.aload_n 1, 1) := by decide +kernel
theorem d3 : decode yB 3 = .ok (.arraylength, 1) := by decide +kernel
theorem d4 : decode yB 4 = .ok (.if_icmp (.ne) 30, 3) := by decide +kernel
theorem d7 : decode yB 7 = .ok (.iconst 0, 1) := by decide +kernel
theorem d8 : decode yB 8 = .ok (.istore_n 2, 1) := by decide +kernel
theorem d9 : decode yB 9 = .ok (.iload_n 2, 1) := by decide +kernel
theorem d10 : decode yB 10 = .ok (.aload_n 0, 1) := by decide +kernel
theorem d11 : decode yB 11 = .ok (.arraylength, 1) := by decide +kernel
theorem d12 : decode yB 12 = .ok (.if_icmp (.ge) 20, 3) := by decide +kernel
theorem d15 : decode yB 15 = .ok (.aload_n 0, 1) := by decide +kernel
theorem d16 : decode yB 16 = .ok (.iload_n 2, 1) := by decide +kernel
theorem d17 : decode yB 17 = .ok (.baload, 1) := by decide +kernel
theorem d18 : decode yB 18 = .ok (.aload_n 1, 1) := by decide +kernel
theorem d19 : decode yB 19 = .ok (.iload_n 2, 1) := by decide +kernel
theorem d20 : decode yB 20 = .ok (.baload, 1) := by decide +kernel
theorem d21 : decode yB 21 = .ok (.if_icmp (.eq) 5, 3) := by decide +kernel
theorem d24 : decode yB 24 = .ok (.iconst 0, 1) := by decide +kernel
theorem d25 : decode yB 25 = .ok (.ireturn, 1) := by decide +kernel
theorem d26 : decode yB 26 = .ok (.iinc 2 1, 3) := by decide +kernel
theorem d29 : decode yB 29 = .ok (.goto (-20), 3) := by decide +kernel
theorem d32 : decode yB 32 = .ok (.iconst 1, 1) := by decide +kernel
theorem d33 : decode yB 33 = .ok (.ireturn, 1) := by decide +kernel
theorem d34 : decode yB 34 = .ok (.iconst 0, 1) := by decide +kernel
theorem d35 : decode yB 35 = .ok (.ireturn, 1) := by decide +kernel
def site : List Cond := []
def tab : Cond := tabOf yN yB 3 (some .boolean) site
def P (a : Addr) (A : Cell) (b : Addr) (B : Cell) (args : Array Value) (s : State) : Prop := args = #[.ref a, .ref b] ∧ XT.Arr .byte a A s ∧ Typed .byte A ∧ XT.Arr .byte b B s ∧ Typed .byte B
/-- whether two byte[] are equal, place for place -/
theorem law (l : Launch) (a : Addr) (A : Cell) (b : Addr) (B : Cell) : Law l yN 2 2 0 0 yB 3 (some .boolean) site (P a A b B) (Says01 (EqC A B)) [] 0 0 := by
  refine Law.of_walk (plainFor_of_name (by decide +kernel)) (by decide +kernel) (by decide +kernel) (by decide) (fun _ _ h => by rw [h.1]; rfl) (fun _ U U' hal hh h => ⟨h.1, h.2.1.mv hal hh, h.2.2.1, h.2.2.2.1.mv hal hh, h.2.2.2.2⟩) (fun r U U' V V' h1 hal h2 h => Says01.mv r U U' V V' h1 hal h2 h) ?_
  intro p e s m args below meth c s₁ X0 hexec hbytes hml hret hlk hnm hown hh0 W hP
  obtain ⟨rfl, hA, tA, hB, tB⟩ := hP
  have a31 := hA.2.2.2
  have b31 := hB.2.2.2
  have hA0 := hA.mv X0.warmed.alike hh0
  have hB0 := hB.mv X0.warmed.alike hh0
  have c1 : Steps p.tables e below (s₁.setTop (entryFrame m #[.ref a, .ref b] 3)) (s₁.setTop (mkF m 0 #[.val (.ref a), .val (.ref b), .unset] [])) := entry rfl
  have c2 : Steps p.tables e below (s₁.setTop (entryFrame m #[.ref a, .ref b] 3)) (s₁.setTop (mkF m 4 #[.val (.ref a), .val (.ref b), .unset] [.int (Int32.ofNat B.slots.size), .int (Int32.ofNat A.slots.size)])) := c1.trans (by
    refine XS.aloadN X0.here hexec rfl (hb hbytes d0) rfl rfl ?_
    refine X0.alen hexec hA0 rfl rfl (hb hbytes d1) ?_
    refine XS.aloadN X0.here hexec rfl (hb hbytes d2) rfl rfl ?_
    refine X0.alen hexec hB0 rfl rfl (hb hbytes d3) ?_
    exact Steps.refl _)
  by_cases hs : A.slots.size = B.slots.size
  · have c3 : Steps p.tables e below (s₁.setTop (entryFrame m #[.ref a, .ref b] 3)) (s₁.setTop (mkF m 9 #[.val (.ref a), .val (.ref b), .val (.int 0)] [])) := c2.trans (by
      refine XS.icmpNo X0.here hexec rfl (hb hbytes d4) rfl (ii_ne_f (by rw [hs])) ?_
      refine iconstV X0.here hexec rfl 0 (hb hbytes d7) (by decide) ?_
      refine XS.istoreN X0.here hexec rfl (hb hbytes d8) rfl rfl ?_
      exact Steps.refl _)
    have loop : ∀ (r i : Nat), i + r = A.slots.size → (∀ j, j < i → yv A j = yv B j) → Steps p.tables e below (s₁.setTop (entryFrame m #[.ref a, .ref b] 3)) (s₁.setTop (mkF m 9 #[.val (.ref a), .val (.ref b), .val (.int (Int32.ofNat i))] [])) → ∃ (pc : Nat) (Ls : Array Slot) (v : Int32), (pc = 25 ∨ pc = 33) ∧ ((v = 1 ∧ EqC A B) ∨ (v = 0 ∧ ¬ EqC A B)) ∧ Steps p.tables e below (s₁.setTop (entryFrame m #[.ref a, .ref b] 3)) (s₁.setTop (mkF m pc Ls [.int v])) := by
      intro r
      induction r with
      | zero =>
        intro i hi he cl
        exact ⟨33, _, 1, Or.inr rfl, Or.inl ⟨rfl, hs, fun j hj => he j (by omega)⟩, cl.trans (by
          refine XS.iloadN X0.here hexec rfl (hb hbytes d9) rfl ?_
          refine XS.aloadN X0.here hexec rfl (hb hbytes d10) rfl rfl ?_
          refine X0.alen hexec hA0 rfl rfl (hb hbytes d11) ?_
          refine XS.icmpYes X0.here hexec rfl (pc0 := 12) rfl (hb hbytes d12) rfl (ii_ge_t (nlt32 (by omega) (by omega))) (by decide) rfl ?_
          refine iconstV X0.here hexec rfl 1 (hb hbytes d32) (by decide) ?_
          exact Steps.refl _)⟩
      | succ r ih =>
        intro i hi he cl
        have c4 : Steps p.tables e below (s₁.setTop (entryFrame m #[.ref a, .ref b] 3)) (s₁.setTop (mkF m 21 #[.val (.ref a), .val (.ref b), .val (.int (Int32.ofNat i))] [.int (yv B i), .int (yv A i)])) := cl.trans (by
          refine XS.iloadN X0.here hexec rfl (hb hbytes d9) rfl ?_
          refine XS.aloadN X0.here hexec rfl (hb hbytes d10) rfl rfl ?_
          refine X0.alen hexec hA0 rfl rfl (hb hbytes d11) ?_
          refine XS.icmpNo X0.here hexec rfl (hb hbytes d12) rfl (ii_ge_f (lt32 (by omega) (by omega))) ?_
          refine XS.aloadN X0.here hexec rfl (hb hbytes d15) rfl rfl ?_
          refine XS.iloadN X0.here hexec rfl (hb hbytes d16) rfl ?_
          refine X0.aget hexec hA0 rfl (yv_get hA tA (i := i) (by omega)) rfl rfl (hb hbytes d17) ?_
          refine XS.aloadN X0.here hexec rfl (hb hbytes d18) rfl rfl ?_
          refine XS.iloadN X0.here hexec rfl (hb hbytes d19) rfl ?_
          refine X0.aget hexec hB0 rfl (yv_get hB tB (i := i) (by omega)) rfl rfl (hb hbytes d20) ?_
          exact Steps.refl _)
        by_cases hv : yv A i = yv B i
        · have c5 : Steps p.tables e below (s₁.setTop (entryFrame m #[.ref a, .ref b] 3)) (s₁.setTop (mkF m 9 #[.val (.ref a), .val (.ref b), .val (.int (Int32.ofNat i + 1))] [])) := c4.trans (by
            refine XS.icmpYes X0.here hexec rfl (pc0 := 21) rfl (hb hbytes d21) rfl (ii_eq_t hv) (by decide) rfl ?_
            refine iincV X0.here hexec rfl 1 (hb hbytes d26) (by decide) rfl rfl ?_
            refine XS.goto X0.here hexec rfl (pc0 := 29) rfl (hb hbytes d29) (by decide) rfl ?_
            exact Steps.refl _)
          rw [succ32] at c5
          exact ih (i + 1) (by omega) (fun j hj => by
            by_cases e : j = i
            · rw [e]; exact hv
            · exact he j (by omega)) c5
        · exact ⟨25, _, 0, Or.inl rfl, Or.inr ⟨rfl, fun q => hv (q.2 i (by omega))⟩, c4.trans (by
            refine XS.icmpNo X0.here hexec rfl (hb hbytes d21) rfl (ii_eq_f hv) ?_
            refine iconstV X0.here hexec rfl 0 (hb hbytes d24) (by decide) ?_
            exact Steps.refl _)⟩
    obtain ⟨pc, Ls, v, hpc, hv, cz⟩ := loop A.slots.size 0 (by omega) (fun j hj => absurd hj (Nat.not_lt_zero j)) c3
    have nv : narrow .boolean (.int v) = .int v := by rcases hv with ⟨rfl, -⟩ | ⟨rfl, -⟩ <;> rfl
    rcases hpc with rfl | rfl
    · exact ⟨s₁, some (.int v), _, _, _, X0, rfl, rfl, rfl, (fun h => by cases h), ⟨v, rfl, hh0, hv⟩, fun fs hl => cz.trans (X0.ireturnOut hexec hret nv (Or.inr (Or.inl rfl)) (hb hbytes d25) hl)⟩
    · exact ⟨s₁, some (.int v), _, _, _, X0, rfl, rfl, rfl, (fun h => by cases h), ⟨v, rfl, hh0, hv⟩, fun fs hl => cz.trans (X0.ireturnOut hexec hret nv (Or.inr (Or.inl rfl)) (hb hbytes d33) hl)⟩
  · have c3 : Steps p.tables e below (s₁.setTop (entryFrame m #[.ref a, .ref b] 3)) (s₁.setTop (mkF m 35 #[.val (.ref a), .val (.ref b), .unset] [.int 0])) := c2.trans (by
      refine XS.icmpYes X0.here hexec rfl (pc0 := 4) rfl (hb hbytes d4) rfl (ii_ne_t (ne32 a31 b31 hs)) (by decide) rfl ?_
      refine iconstV X0.here hexec rfl 0 (hb hbytes d34) (by decide) ?_
      exact Steps.refl _)
    exact ⟨s₁, some (.int 0), _, _, _, X0, rfl, rfl, rfl, (fun h => by cases h), ⟨0, rfl, hh0, Or.inr ⟨rfl, fun q => hs q.1⟩⟩, fun fs hl => c3.trans (X0.ireturnOut hexec hret rfl (Or.inr (Or.inl rfl)) (hb hbytes d35) hl)⟩
end LEq
theorem Cod.ty {cd : Int32} {n : Nat} {f : Nat → Int32} {V : Cell} (h : Cod cd n f V) : Typed .byte V := fun i v hv => by
  have hi : i < V.slots.size := (Array.getElem?_eq_some_iff.mp hv).1
  rcases h with ⟨-, k1, k2⟩ | ⟨-, k1, k2, -⟩
  · rw [(k2 i (by omega)).1] at hv; cases hv; exact fits_lo8 _
  · rcases Nat.mod_two_eq_zero_or_one i with e | e
    · obtain ⟨j, rfl⟩ : ∃ j, i = 2 * j := ⟨i / 2, by omega⟩
      rw [(k2 j (by omega)).1] at hv; cases hv; exact fits_lo8 _
    · obtain ⟨j, rfl⟩ : ∃ j, i = 2 * j + 1 := ⟨i / 2, by omega⟩
      rw [(k2 j (by omega)).2] at hv; cases hv; exact fits_lo8 _
/-- the same text -/
def SameT (n : Nat) (f : Nat → Int32) (k : Nat) (g : Nat → Int32) : Prop := n = k ∧ ∀ j, j < n → f j = g j
theorem lo8_inj {x y : Int32} (h0 : ¬ x < 0) (h1 : ¬ 255 < x) (k0 : ¬ y < 0) (k1 : ¬ 255 < y) (h : lo8 x = lo8 y) : x = y := by
  rw [← lo8_mask h0 h1, ← lo8_mask k0 k1, h]
/-- arrays coded by one coder are equal just where the texts are -/
theorem Cod.eqv {cd : Int32} {n k : Nat} {f g : Nat → Int32} {V V' : Cell} (h : Cod cd n f V) (h' : Cod cd k g V') (hf : ∀ j, j < n → ¬ f j < 0 ∧ ¬ 65535 < f j) (hg : ∀ j, j < k → ¬ g j < 0 ∧ ¬ 65535 < g j) : EqC V V' ↔ SameT n f k g := by
  have yvv : ∀ {W : Cell} {i : Nat} {x : Int32}, W.slots[i]? = some (.int x) → yv W i = x := fun q => by unfold yv; rw [q]
  rcases h with ⟨rfl, k1, k2⟩ | ⟨rfl, k1, k2, -⟩
  · rcases h' with ⟨-, m1, m2⟩ | ⟨e, -⟩
    · constructor
      · rintro ⟨e1, e2⟩
        refine ⟨by omega, fun j hj => ?_⟩
        have q := e2 j (by omega)
        rw [yvv (k2 j hj).1, yvv (m2 j (by omega)).1] at q
        exact lo8_inj (hf j hj).1 (k2 j hj).2 (hg j (by omega)).1 (m2 j (by omega)).2 q
      · rintro ⟨rfl, e2⟩
        refine ⟨by omega, fun j hj => ?_⟩
        rw [yvv (k2 j (by omega)).1, yvv (m2 j (by omega)).1, e2 j (by omega)]
    · exact absurd e (by decide)
  · rcases h' with ⟨e, -⟩ | ⟨-, m1, m2, -⟩
    · exact absurd e (by decide)
    · constructor
      · rintro ⟨e1, e2⟩
        refine ⟨by omega, fun j hj => ?_⟩
        have q1 := e2 (2 * j) (by omega)
        have q2 := e2 (2 * j + 1) (by omega)
        rw [yvv (k2 j hj).1, yvv (m2 j (by omega)).1] at q1
        rw [yvv (k2 j hj).2, yvv (m2 j (by omega)).2] at q2
        rw [← pair_says (hf j hj).1 (hf j hj).2, ← pair_says (hg j (by omega)).1 (hg j (by omega)).2, q1, q2]
      · rintro ⟨rfl, e2⟩
        refine ⟨by omega, fun i hi => ?_⟩
        rcases Nat.mod_two_eq_zero_or_one i with e | e
        · obtain ⟨j, rfl⟩ : ∃ j, i = 2 * j := ⟨i / 2, by omega⟩
          rw [yvv (k2 j (by omega)).1, yvv (m2 j (by omega)).1, e2 j (by omega)]
        · obtain ⟨j, rfl⟩ : ∃ j, i = 2 * j + 1 := ⟨i / 2, by omega⟩
          rw [yvv (k2 j (by omega)).2, yvv (m2 j (by omega)).2, e2 j (by omega)]
/-- two codings differ: so do the texts -/
theorem Cod.dif {cd cd' : Int32} {n k : Nat} {f g : Nat → Int32} {V V' : Cell} (h : Cod cd n f V) (h' : Cod cd' k g V') (hne : ¬ cd = cd') : ¬ SameT n f k g := by
  rintro ⟨rfl, e⟩
  rcases h with ⟨rfl, -, k2⟩ | ⟨rfl, -, -, j, hj, hw⟩
  · rcases h' with ⟨rfl, -⟩ | ⟨-, -, -, j, hj, hw⟩
    · exact hne rfl
    · exact (k2 j hj).2 (by rw [e j hj]; exact hw)
  · rcases h' with ⟨-, -, m2⟩ | ⟨rfl, -⟩
    · exact (m2 j hj).2 (by rw [← e j hj]; exact hw)
    · exact hne rfl
/-- an object of exactly C is an instance of C -/
theorem cinst {p : Program} {l : Launch} {e : Env} {R : Room} {s : State} {m : MethodId} {args : Array Value} {below : List Frame} {meth : Method} {c : Code} {T : State} {locs : List Loc} {cells slots : Nat} (X : Stand p l e R s m args below meth c T locs cells slots) (hexec : p.tables.exec = Jvm.exec) {own C : String} {index : Nat} (hown : s.vm.findClass own = some m.cls) (hlink : (Cond.classLink own index C).before args s = true) {a : Addr} (hE : Exact C a T)
    {g : JFrame} (hg : g.method = m) {rest : List Value} (hstack : g.stack = .ref a :: rest) (hdg : decode c.code g.pc = .ok (.instanceof index, 3)) :
    ∃ T', Stand p l e R s m args below meth c T' locs cells slots ∧ T'.heap = T.heap ∧ ∀ target, Steps p.tables e below (T'.setTop { g with pc := g.pc + 3, stack := .int 1 :: rest }) target → Steps p.tables e below (T.setTop g) target := by
  obtain ⟨cB, h1, D, h2, h3, h4⟩ := hE
  have h1' : s.vm.findClass C = some cB := by rw [← X.warmed.alike.findClass]; exact h1
  obtain ⟨vm', X', st⟩ := X.instanceofYes hexec hown hlink h2 h4 h1' (by rw [h3]; exact Jvm.Free.SB.assignable_self _ _) hg hstack hdg
  exact ⟨_, X', rfl, st⟩
theorem cself {p : Program} {l : Launch} {e : Env} {R : Room} {s : State} {m : MethodId} {args : Array Value} {below : List Frame} {meth : Method} {c : Code} {T : State} {locs : List Loc} {cells slots : Nat} (X : Stand p l e R s m args below meth c T locs cells slots) (hexec : p.tables.exec = Jvm.exec) {own C : String} {index : Nat} (hown : s.vm.findClass own = some m.cls) (hlink : (Cond.classLink own index C).before args s = true) {a : Addr} (hE : Exact C a T)
    {g : JFrame} (hg : g.method = m) {rest : List Value} (hstack : g.stack = .ref a :: rest) (hdg : decode c.code g.pc = .ok (.checkcast index, 3)) :
    ∃ T', Stand p l e R s m args below meth c T' locs cells slots ∧ T'.heap = T.heap ∧ ∀ target, Steps p.tables e below (T'.setTop { g with pc := g.pc + 3, stack := .ref a :: rest }) target → Steps p.tables e below (T.setTop g) target := by
  obtain ⟨cB, h1, D, h2, h3, h4⟩ := hE
  have h1' : s.vm.findClass C = some cB := by rw [← X.warmed.alike.findClass]; exact h1
  obtain ⟨vm', X', st⟩ := X.checkcastYes hexec hown hlink h2 h4 h1' (by rw [h3]; exact Jvm.Free.SB.assignable_self _ _) hg hstack hdg
  exact ⟨_, X', rfl, fun t h => st t (by rw [← hstack] at h; exact h)⟩
namespace SEq
def yN : MethodName := ⟨"java/lang/String", "equals", "(Ljava/lang/Object;)Z"⟩
abbrev yB : ByteArray := jdk_42_method_66_code
theorem d0 : decode yB 0 = .ok (.aload_n 0, 1) := by decide +kernel
theorem d1 : decode yB 1 = .ok (.aload_n 1, 1) := by decide +kernel
theorem d2 : decode yB 2 = .ok (.if_acmp (.ne) 5, 3) := by decide +kernel
theorem d5 : decode yB 5 = .ok (.iconst 1, 1) := by decide +kernel
theorem d6 : decode yB 6 = .ok (.ireturn, 1) := by decide +kernel
theorem d7 : decode yB 7 = .ok (.aload_n 1, 1) := by decide +kernel
theorem d8 : decode yB 8 = .ok (.instanceof 10, 3) := by decide +kernel
theorem d11 : decode yB 11 = .ok (.ifCond (.eq) 43, 3) := by decide +kernel
theorem d14 : decode yB 14 = .ok (.aload_n 1, 1) := by decide +kernel
theorem d15 : decode yB 15 = .ok (.checkcast 10, 3) := by decide +kernel
theorem d18 : decode yB 18 = .ok (.astore_n 2, 1) := by decide +kernel
theorem d19 : decode yB 19 = .ok (.getstatic 38, 3) := by decide +kernel
theorem d22 : decode yB 22 = .ok (.ifCond (.eq) 14, 3) := by decide +kernel
theorem d25 : decode yB 25 = .ok (.aload_n 0, 1) := by decide +kernel
theorem d26 : decode yB 26 = .ok (.getfield 15, 3) := by decide +kernel
theorem d29 : decode yB 29 = .ok (.aload_n 2, 1) := by decide +kernel
theorem d30 : decode yB 30 = .ok (.getfield 15, 3) := by decide +kernel
theorem d33 : decode yB 33 = .ok (.if_icmp (.ne) 21, 3) := by decide +kernel
theorem d36 : decode yB 36 = .ok (.aload_n 0, 1) := by decide +kernel
theorem d37 : decode yB 37 = .ok (.getfield 9, 3) := by decide +kernel
theorem d40 : decode yB 40 = .ok (.aload_n 2, 1) := by decide +kernel
theorem d41 : decode yB 41 = .ok (.getfield 9, 3) := by decide +kernel
theorem d44 : decode yB 44 = .ok (.invokestatic 541, 3) := by decide +kernel
theorem d47 : decode yB 47 = .ok (.ifCond (.eq) 7, 3) := by decide +kernel
theorem d50 : decode yB 50 = .ok (.iconst 1, 1) := by decide +kernel
theorem d51 : decode yB 51 = .ok (.goto 4, 3) := by decide +kernel
theorem d54 : decode yB 54 = .ok (.iconst 0, 1) := by decide +kernel
theorem d55 : decode yB 55 = .ok (.ireturn, 1) := by decide +kernel
def site : List Cond := [.classLink "java/lang/String" 10 "java/lang/String", .fieldLink "java/lang/String" 38 "java/lang/String" "COMPACT_STRINGS" "Z", .fieldLink "java/lang/String" 15 "java/lang/String" "coder" "B", .fieldLink "java/lang/String" 9 "java/lang/String" "value" "[B", LEq.tab] ++ staticW "java/lang/String" 541 LEq.yN
def tab : Cond := tabOf yN yB 3 (some .boolean) site
def P (x t : Addr) (V : Cell) (cd : Int32) (n : Nat) (f : Nat → Int32) (y t' : Addr) (V' : Cell) (cd' : Int32) (k : Nat) (g : Nat → Int32) (z : Int32) (args : Array Value) (s : State) : Prop := args = #[.ref x, .ref y] ∧ Txt x t V cd n f s ∧ Txt y t' V' cd' k g s ∧ StaticIs s "java/lang/String" "COMPACT_STRINGS" "Z" (.int z) ∧ ¬ z = 0
/-- equals(Object) of two Strings: whether the texts are the same -/
theorem law (l : Launch) (x t : Addr) (V : Cell) (cd : Int32) (n : Nat) (f : Nat → Int32) (y t' : Addr) (V' : Cell) (cd' : Int32) (k : Nat) (g : Nat → Int32) (z : Int32) : Law l yN 2 1 1 14 yB 3 (some .boolean) site (P x t V cd n f y t' V' cd' k g z) (Says01 (SameT n f k g)) [] 0 0 := by
  refine Law.of_walk (plainFor_of_name (by decide +kernel)) (by decide +kernel) (by decide +kernel) (by decide) (fun _ _ h => by rw [h.1]; rfl) (fun _ U U' hal hh h => ⟨h.1, h.2.1.mv hal hh, h.2.2.1.mv hal hh, h.2.2.2.1.there hal hh, h.2.2.2.2⟩) (fun r U U' V V' h1 hal h2 h => Says01.mv r U U' V V' h1 hal h2 h) ?_
  intro p e s m args below meth c s₁ X0 hexec hbytes hml hret hlk hnm hown hh0 W hP
  obtain ⟨rfl, hx, hy, s1, hz⟩ := hP
  have c1 : Steps p.tables e below (s₁.setTop (entryFrame m #[.ref x, .ref y] 3)) (s₁.setTop (mkF m 2 #[.val (.ref x), .val (.ref y), .unset] [.ref y, .ref x])) := Steps.trans (entry rfl) (by
    show Steps p.tables e below (s₁.setTop (mkF m 0 #[.val (.ref x), .val (.ref y), .unset] [])) _
    refine XS.aloadN X0.here hexec rfl (hb hbytes d0) rfl rfl ?_
    refine XS.aloadN X0.here hexec rfl (hb hbytes d1) rfl rfl ?_
    exact Steps.refl _)
  by_cases hxy : x = y
  · have c2 : Steps p.tables e below (s₁.setTop (entryFrame m #[.ref x, .ref y] 3)) (s₁.setTop (mkF m 6 #[.val (.ref x), .val (.ref y), .unset] [.int 1])) := c1.trans (by
      refine acmpNo X0.here hexec rfl (hb hbytes d2) rfl rfl rfl (by simp [acmp, hxy]) ?_
      refine iconstV X0.here hexec rfl 1 (hb hbytes d5) (by decide) ?_
      exact Steps.refl _)
    subst hxy
    have ec : cd = cd' := by
      obtain ⟨D, fd, a1, a2, a3⟩ := hx.2.2.1
      obtain ⟨D', fd', b1, b2, b3⟩ := hy.2.2.1
      cases a1.symm.trans b1
      obtain ⟨q1, q2, q3, q4⟩ := a2.1
      obtain ⟨r1, r2, r3, r4⟩ := b2.1
      cases q4.symm.trans r4
      cases a3.symm.trans b3; rfl
    have et : t = t' := by
      obtain ⟨D, fd, a1, a2, a3⟩ := hx.2.1
      obtain ⟨D', fd', b1, b2, b3⟩ := hy.2.1
      cases a1.symm.trans b1
      obtain ⟨q1, q2, q3, q4⟩ := a2.1
      obtain ⟨r1, r2, r3, r4⟩ := b2.1
      cases q4.symm.trans r4
      cases a3.symm.trans b3; rfl
    subst ec et
    have ev : V = V' := by cases hx.2.2.2.1.1.symm.trans hy.2.2.2.1.1; rfl
    subst ev
    have hs : SameT n f k g := (Cod.eqv hx.2.2.2.2.1 hy.2.2.2.2.1 hx.2.2.2.2.2 hy.2.2.2.2.2).mp ⟨rfl, fun _ _ => rfl⟩
    exact ⟨s₁, some (.int 1), _, _, _, X0, rfl, rfl, rfl, (fun h => by cases h), ⟨1, rfl, hh0, Or.inl ⟨rfl, hs⟩⟩, fun fs hl => c2.trans (X0.ireturnOut hexec hret rfl (Or.inr (Or.inl rfl)) (hb hbytes d6) hl)⟩
  · have c2 : Steps p.tables e below (s₁.setTop (entryFrame m #[.ref x, .ref y] 3)) (s₁.setTop (mkF m 8 #[.val (.ref x), .val (.ref y), .unset] [.ref y])) := c1.trans (by
      refine acmpYes X0.here hexec rfl (pc0 := 2) rfl (hb hbytes d2) rfl rfl rfl (by simp [acmp, hxy]) (by decide) rfl ?_
      refine XS.aloadN X0.here hexec rfl (hb hbytes d7) rfl rfl ?_
      exact Steps.refl _)
    obtain ⟨T3, X3, q3, st3⟩ := cinst X0 hexec hown (wk W (.classLink "java/lang/String" 10 "java/lang/String")) (hy.mv X0.warmed.alike hh0).1 (g := (mkF m 8 #[.val (.ref x), .val (.ref y), .unset] [.ref y])) rfl (rest := []) rfl (hb hbytes d8)
    have hh3 := q3.trans hh0
    have c4 : Steps p.tables e below (s₁.setTop (entryFrame m #[.ref x, .ref y] 3)) (T3.setTop (mkF m 15 #[.val (.ref x), .val (.ref y), .unset] [.ref y])) := (c2.trans (st3 _ (Steps.refl _))).trans (by
      refine XS.ifNo X3.here hexec rfl (hb hbytes d11) rfl (i0_eq_f (by decide)) ?_
      refine XS.aloadN X3.here hexec rfl (hb hbytes d14) rfl rfl ?_
      exact Steps.refl _)
    obtain ⟨T5, X5, q5, st5⟩ := cself X3 hexec hown (wk W (.classLink "java/lang/String" 10 "java/lang/String")) (hy.mv X3.warmed.alike hh3).1 (g := (mkF m 15 #[.val (.ref x), .val (.ref y), .unset] [.ref y])) rfl (rest := []) rfl (hb hbytes d15)
    have hh5 := q5.trans hh3
    have c6 : Steps p.tables e below (s₁.setTop (entryFrame m #[.ref x, .ref y] 3)) (T5.setTop (mkF m 19 #[.val (.ref x), .val (.ref y), .val (.ref y)] [])) := (c4.trans (st5 _ (Steps.refl _))).trans (by
      refine XS.astoreN X5.here hexec rfl (hb hbytes d18) rfl rfl rfl ?_
      exact Steps.refl _)
    obtain ⟨T7, X7, q7, st7⟩ := X5.sget hexec hown (wk W (.fieldLink "java/lang/String" 38 "java/lang/String" "COMPACT_STRINGS" "Z")) s1 (fun _ _ h => by rw [hh5]; exact h) (g := (mkF m 19 #[.val (.ref x), .val (.ref y), .val (.ref y)] [])) rfl (hb hbytes d19)
    have hh7 := q7.trans hh5
    have c8 : Steps p.tables e below (s₁.setTop (entryFrame m #[.ref x, .ref y] 3)) (T7.setTop (mkF m 26 #[.val (.ref x), .val (.ref y), .val (.ref y)] [.ref x])) := (c6.trans (st7 _ (Steps.refl _))).trans (by
      refine XS.ifNo X7.here hexec rfl (hb hbytes d22) rfl (i0_eq_f hz) ?_
      refine XS.aloadN X7.here hexec rfl (hb hbytes d25) rfl rfl ?_
      exact Steps.refl _)
    obtain ⟨T9, X9, q9, st9⟩ := X7.hget hexec hown (wk W (.fieldLink "java/lang/String" 15 "java/lang/String" "coder" "B")) (hx.mv X7.warmed.alike hh7).2.2.1 (g := (mkF m 26 #[.val (.ref x), .val (.ref y), .val (.ref y)] [.ref x])) rfl (rest := []) rfl (hb hbytes d26)
    have hh9 := q9.trans hh7
    have c10 : Steps p.tables e below (s₁.setTop (entryFrame m #[.ref x, .ref y] 3)) (T9.setTop (mkF m 30 #[.val (.ref x), .val (.ref y), .val (.ref y)] [.ref y, .int cd])) := (c8.trans (st9 _ (Steps.refl _))).trans (by
      refine XS.aloadN X9.here hexec rfl (hb hbytes d29) rfl rfl ?_
      exact Steps.refl _)
    obtain ⟨T11, X11, q11, st11⟩ := X9.hget hexec hown (wk W (.fieldLink "java/lang/String" 15 "java/lang/String" "coder" "B")) (hy.mv X9.warmed.alike hh9).2.2.1 (g := (mkF m 30 #[.val (.ref x), .val (.ref y), .val (.ref y)] [.ref y, .int cd])) rfl (rest := [.int cd]) rfl (hb hbytes d30)
    have hh11 := q11.trans hh9
    have c12 : Steps p.tables e below (s₁.setTop (entryFrame m #[.ref x, .ref y] 3)) (T11.setTop (mkF m 33 #[.val (.ref x), .val (.ref y), .val (.ref y)] [.int cd', .int cd])) := c10.trans (st11 _ (Steps.refl _))
    by_cases hcd : cd = cd'
    · subst hcd
      have c13 : Steps p.tables e below (s₁.setTop (entryFrame m #[.ref x, .ref y] 3)) (T11.setTop (mkF m 37 #[.val (.ref x), .val (.ref y), .val (.ref y)] [.ref x])) := c12.trans (by
        refine XS.icmpNo X11.here hexec rfl (hb hbytes d33) rfl (ii_ne_f rfl) ?_
        refine XS.aloadN X11.here hexec rfl (hb hbytes d36) rfl rfl ?_
        exact Steps.refl _)
      obtain ⟨T14, X14, q14, st14⟩ := X11.hget hexec hown (wk W (.fieldLink "java/lang/String" 9 "java/lang/String" "value" "[B")) (hx.mv X11.warmed.alike hh11).2.1 (g := (mkF m 37 #[.val (.ref x), .val (.ref y), .val (.ref y)] [.ref x])) rfl (rest := []) rfl (hb hbytes d37)
      have hh14 := q14.trans hh11
      have c15 : Steps p.tables e below (s₁.setTop (entryFrame m #[.ref x, .ref y] 3)) (T14.setTop (mkF m 41 #[.val (.ref x), .val (.ref y), .val (.ref y)] [.ref y, .ref t])) := (c13.trans (st14 _ (Steps.refl _))).trans (by
        refine XS.aloadN X14.here hexec rfl (hb hbytes d40) rfl rfl ?_
        exact Steps.refl _)
      obtain ⟨T16, X16, q16, st16⟩ := X14.hget hexec hown (wk W (.fieldLink "java/lang/String" 9 "java/lang/String" "value" "[B")) (hy.mv X14.warmed.alike hh14).2.1 (g := (mkF m 41 #[.val (.ref x), .val (.ref y), .val (.ref y)] [.ref y, .ref t])) rfl (rest := [.ref t]) rfl (hb hbytes d41)
      have hh16 := q16.trans hh14
      have c17 : Steps p.tables e below (s₁.setTop (entryFrame m #[.ref x, .ref y] 3)) (T16.setTop (mkF m 44 #[.val (.ref x), .val (.ref y), .val (.ref y)] [.ref t', .ref t])) := c15.trans (st16 _ (Steps.refl _))
      obtain ⟨v18, T18, X18, E18, g18⟩ := X16.callS hexec (LEq.law l t V t' V') hown (wks W (staticW "java/lang/String" 541 LEq.yN)) (wk W LEq.tab) (W := 0) (Nat.le_of_ble_eq_true rfl) (Nat.le_of_ble_eq_true rfl) (Nat.le_refl _) (Nat.le_refl _) (g := (mkF m 44 #[.val (.ref x), .val (.ref y), .val (.ref y)] [.ref t', .ref t])) rfl (by rw [hml]; rfl) c17 (argsL := [.ref t, .ref t']) (rest := []) rfl rfl (by show 2 * 0 + 0 ≤ _; decide) (hb hbytes d44) (⟨rfl, hx.2.2.2.1.mv X16.warmed.alike hh16, hx.2.2.2.2.1.ty, hy.2.2.2.1.mv X16.warmed.alike hh16, hy.2.2.2.2.1.ty⟩)
      obtain ⟨v, rfl, q18, hv⟩ := E18
      have iff := Cod.eqv hx.2.2.2.2.1 hy.2.2.2.2.1 hx.2.2.2.2.2 hy.2.2.2.2.2
      rcases hv with ⟨rfl, he⟩ | ⟨rfl, he⟩
      · have c19 : Steps p.tables e below (s₁.setTop (entryFrame m #[.ref x, .ref y] 3)) (T18.setTop (mkF m 55 #[.val (.ref x), .val (.ref y), .val (.ref y)] [.int 1])) := Steps.trans g18 (by
          refine XS.ifNo X18.here hexec rfl (hb hbytes d47) rfl (i0_eq_f (by decide)) ?_
          refine iconstV X18.here hexec rfl 1 (hb hbytes d50) (by decide) ?_
          refine XS.goto X18.here hexec rfl (pc0 := 51) rfl (hb hbytes d51) (by decide) rfl ?_
          exact Steps.refl _)
        exact ⟨T18, some (.int 1), _, _, _, X18, rfl, rfl, rfl, (fun h => by cases h), ⟨1, rfl, q18.trans hh16, Or.inl ⟨rfl, iff.mp he⟩⟩, fun fs hl => c19.trans (X18.ireturnOut hexec hret rfl (Or.inr (Or.inl rfl)) (hb hbytes d55) hl)⟩
      · have c19 : Steps p.tables e below (s₁.setTop (entryFrame m #[.ref x, .ref y] 3)) (T18.setTop (mkF m 55 #[.val (.ref x), .val (.ref y), .val (.ref y)] [.int 0])) := Steps.trans g18 (by
          refine XS.ifYes X18.here hexec rfl (pc0 := 47) rfl (hb hbytes d47) rfl (i0_eq_t rfl) (by decide) rfl ?_
          refine iconstV X18.here hexec rfl 0 (hb hbytes d54) (by decide) ?_
          exact Steps.refl _)
        exact ⟨T18, some (.int 0), _, _, _, X18, rfl, rfl, rfl, (fun h => by cases h), ⟨0, rfl, q18.trans hh16, Or.inr ⟨rfl, fun q => he (iff.mpr q)⟩⟩, fun fs hl => c19.trans (X18.ireturnOut hexec hret rfl (Or.inr (Or.inl rfl)) (hb hbytes d55) hl)⟩
    · have c13 : Steps p.tables e below (s₁.setTop (entryFrame m #[.ref x, .ref y] 3)) (T11.setTop (mkF m 55 #[.val (.ref x), .val (.ref y), .val (.ref y)] [.int 0])) := c12.trans (by
        refine XS.icmpYes X11.here hexec rfl (pc0 := 33) rfl (hb hbytes d33) rfl (ii_ne_t hcd) (by decide) rfl ?_
        refine iconstV X11.here hexec rfl 0 (hb hbytes d54) (by decide) ?_
        exact Steps.refl _)
      exact ⟨T11, some (.int 0), _, _, _, X11, rfl, rfl, rfl, (fun h => by cases h), ⟨0, rfl, hh11, Or.inr ⟨rfl, Cod.dif hx.2.2.2.2.1 hy.2.2.2.2.1 hcd⟩⟩, fun fs hl => c13.trans (X11.ireturnOut hexec hret rfl (Or.inr (Or.inl rfl)) (hb hbytes d55) hl)⟩
theorem pays {l : Launch} {R : Room} {p : Program} {e : Env} {below : List Frame} {s : State} {sargs : Array Value} {len W : Nat} (x t : Addr) (V : Cell) (cd : Int32) (n : Nat) (f : Nat → Int32) (y t' : Addr) (V' : Cell) (cd' : Int32) (k : Nat) (g : Nat → Int32) (z : Int32) (htab : tab.before sargs s = true) (hfr : 2 ≤ R.frames) (hlo : W + 28 ≤ R.locals) :
    Back l R p e below s sargs yN len W (fun A₁ a₁ => A₁.cells + 0 ≤ R.cells ∧ A₁.slots + 0 ≤ R.slots ∧ P x t V cd n f y t' V' cd' k g z a₁ A₁.U) (fun A₁ _ v₁ B₁ => Says01 (SameT n f k g) v₁ A₁.U B₁.U ∧ B₁.locs = A₁.locs ++ [] ∧ B₁.cells = A₁.cells + 0 ∧ B₁.slots = A₁.slots + 0) :=
  (law l x t V cd n f y t' V' cd' k g z).pays htab hfr (by omega)
end SEq
end StrChars
namespace StrChars.Road
open Jvm Sem ClassFile Op Lib Jvm.Stand Jvm.Free Jvm.Free.XT
open Jvm.Lib.Cold (StaticIs)
/-- the words of String.equals(Object) -/
abbrev wordsEq : List Jvm.Cond := [.code SEq.yN SEq.yB 3 (some .boolean), .initialized ST, .classLink ST 10 ST, .fieldLink ST 38 ST "COMPACT_STRINGS" "Z", .fieldLink ST 15 ST "coder" "B", .fieldLink ST 9 ST "value" "[B", .methodLink ST 541 LEq.yN, .static LEq.yN, .code LEq.yN LEq.yB 3 (some .boolean), .initialized "java/lang/StringLatin1"]
theorem tabEq_of {a : Array Value} {s : State} (h : ∀ w ∈ wordsEq, w.before a s = true) : SEq.tab.before a s = true := by
  have hl : LEq.tab.before a s = true := unparts (wk h (.code LEq.yN LEq.yB 3 (some .boolean))) (wks h (.initialized LEq.yN.cls :: LEq.site))
  have q := consq hl h
  exact unparts (wk q (.code SEq.yN SEq.yB 3 (some .boolean))) (wks q (.initialized SEq.yN.cls :: SEq.site))
theorem movedEq {Z s : State} {a0 args : Array Value} (hZ : Z.Warmed39 s.vm) (hw : ∀ d ∈ wordsEq, d.before a0 Z = true) : ∀ d ∈ wordsEq, d.before args s = true := fun d hd => by
  have t : ∀ d ∈ wordsEq, (d.onTables && d.keepsFace) = true := by decide +kernel
  exact RoadKit.mv hZ (hw d hd) (t d hd)
/-- the road's facts of a String, as the laws ask it -/
theorem txt_of {Z U : State} {a0 : Array Value} {kI : Nat} (wi : (Jvm.Cond.instantiable ST kI).before a0 Z = true) (al : Z.vm.Alike U.vm) {x t : Addr} {kb : ClassId} {cs : List Int32} {cd N2 : Int32} {vs : List Value} (E : RoadKit.Exa Z U.heap x ST) (V : RoadKit.Fld Z U.heap x ST "value" "[B" (.ref t)) (C : RoadKit.Fld Z U.heap x ST "coder" "B" (.int cd)) (K : RoadKit.Arv Z U.heap t kb .byte N2 vs (.int 0)) (hc : CodA cs cd N2 vs) (hb : ∀ c ∈ cs, ¬ c < 0 ∧ ¬ (65535 : Int32) < c) (l2 : cs.length ≤ 4000) :
    ∃ A, Txt x t A cd cs.length (fun j => cs.getD j 0) U := by
  obtain ⟨A, K1, K2, K3, K4, K5, K6⟩ := K
  have hcod := hc.cod (by omega) K3 K5
  obtain ⟨D, fV, fC, hB, F1, F2, g1, g2, -, -⟩ := strObj wi al E V C
  exact ⟨A, ⟨_, hB.2.2.1, D, hB.1, rfl, by cases q : D.vm <;> first | rfl | exact absurd q (hB.2.1.2 _)⟩, Has.of hB F1 g1, Has.of hB F2 g2, ⟨K1.1, State.isArrayOf_alike al K1.2.1, K1.2.2, by rcases hcod with ⟨-, q, -⟩ | ⟨-, q, -⟩ <;> omega⟩, hcod, fun j hj => by
    have e : cs.getD j 0 = cs[j] := by simp [List.getD_eq_getElem?_getD, hj]
    show ¬ cs.getD j 0 < 0 ∧ ¬ 65535 < cs.getD j 0
    rw [e]; exact hb _ (List.getElem_mem _)⟩
theorem same_list (cs ds : List Int32) : SameT cs.length (fun j => cs.getD j 0) ds.length (fun j => ds.getD j 0) ↔ cs = ds := by
  constructor
  · rintro ⟨e, q⟩
    refine List.ext_getElem e fun j h1 h2 => ?_
    have := q j h1
    simpa [List.getD_eq_getElem?_getD, h1, h2] using this
  · rintro rfl
    exact ⟨rfl, fun _ _ => rfl⟩
/-- **equals(Object) OF TWO SUCH STRINGS**: 1 just where the chars are the same -/
theorem eqW {p : Program} {l : Launch} {e : Env} {R : Room} {s : State} {args : Array Value} {below : List Frame} {len W : Nat} {Z : State} {a0 : Array Value} {h : Heap} (hZ : Z.Warmed39 s.vm) (hw : ∀ d ∈ wordsEq, d.before a0 Z = true) {kI : Nat} (wi : (Jvm.Cond.instantiable ST kI).before a0 Z = true)
    {x t : Addr} {kb : ClassId} {cs : List Int32} {cd N2 : Int32} {vs : List Value} (E : RoadKit.Exa Z h x ST) (V : RoadKit.Fld Z h x ST "value" "[B" (.ref t)) (C : RoadKit.Fld Z h x ST "coder" "B" (.int cd)) (K : RoadKit.Arv Z h t kb .byte N2 vs (.int 0)) (hc : CodA cs cd N2 vs) (hb : ∀ c ∈ cs, ¬ c < 0 ∧ ¬ (65535 : Int32) < c) (l2 : cs.length ≤ 4000)
    {y t' : Addr} {kb' : ClassId} {ds : List Int32} {cd' N2' : Int32} {vs' : List Value} (E' : RoadKit.Exa Z h y ST) (V' : RoadKit.Fld Z h y ST "value" "[B" (.ref t')) (C' : RoadKit.Fld Z h y ST "coder" "B" (.int cd')) (K' : RoadKit.Arv Z h t' kb' .byte N2' vs' (.int 0)) (hc' : CodA ds cd' N2' vs') (hb' : ∀ c ∈ ds, ¬ c < 0 ∧ ¬ (65535 : Int32) < c) (l2' : ds.length ≤ 4000)
    {z : Int32} (S : RoadKit.Sta Z h ST "COMPACT_STRINGS" "Z" (.int z)) (hz : ¬ z = 0) (hfr : 2 ≤ R.frames) (hlo : W + 28 ≤ R.locals) :
    Back l R p e below s args (⟨"java/lang/String", "equals", "(Ljava/lang/Object;)Z"⟩ : MethodName) len W (fun P a => a = #[.ref x, .ref y] ∧ P.U.heap = h ∧ P.cells + 0 ≤ R.cells ∧ P.slots + 0 ≤ R.slots)
      (fun P _ v B => ∃ L, (((v = some (.int 1) ∧ cs = ds) ∨ (v = some (.int 0) ∧ ¬ cs = ds)) ∧ L = [] ∧ B.U.heap = h) ∧ B.locs = P.locs ++ L ∧ B.cells = P.cells + 0 ∧ B.slots = P.slots + 0) := by
  intro m meth c P g ig mk a X hg hsize hdg hW hn hp'
  obtain ⟨rfl, rfl, r1, r2⟩ := hp'
  have al : Z.vm.Alike P.U.vm := hZ.alike.trans X.warmed.alike
  obtain ⟨A, hx⟩ := txt_of wi al E V C K hc hb l2
  obtain ⟨A', hy⟩ := txt_of wi al E' V' C' K' hc' hb' l2'
  obtain ⟨v, B, X', ⟨⟨w, hv, hh, hq⟩, hl, hk, hs⟩, st⟩ := SEq.pays x t A cd cs.length (fun j => cs.getD j 0) y t' A' cd' ds.length (fun j => ds.getD j 0) z (tabEq_of (movedEq hZ hw)) hfr hlo m meth c P g ig mk _ X hg hsize hdg hW hn ⟨r1, r2, rfl, hx, hy, sta_is al S, hz⟩
  refine ⟨v, B, X', ⟨[], ⟨?_, rfl, hh⟩, hl, hk, hs⟩, st⟩
  rcases hq with ⟨rfl, q⟩ | ⟨rfl, q⟩
  · exact Or.inl ⟨hv, (same_list cs ds).mp q⟩
  · exact Or.inr ⟨hv, fun e => q ((same_list cs ds).mpr e)⟩
end StrChars.Road
namespace StrChars
open Jvm Sem ClassFile Op Lib Jvm.Stand Jvm.Free.XT Jvm.Free.ALB Jvm.Free.JM Jvm.Free
open Jvm.Lib.Cold (StaticIs)
namespace ChN
def yN : MethodName := ⟨"java/lang/String", "charAt", "(I)C"⟩
abbrev yB : ByteArray := jdk_42_method_56_code
theorem d0 : decode yB 0 = .ok (.aload_n 0, 1) := by decide +kernel
theorem d1 : decode yB 1 = .ok (.invokevirtual 492, 3) := by decide +kernel
theorem d4 : decode yB 4 = .ok (.ifCond (.eq) 12, 3) := by decide +kernel
theorem d7 : decode yB 7 = .ok (.aload_n 0, 1) := by decide +kernel
theorem d8 : decode yB 8 = .ok (.getfield 9, 3) := by decide +kernel
theorem d11 : decode yB 11 = .ok (.iload_n 1, 1) := by decide +kernel
theorem d12 : decode yB 12 = .ok (.invokestatic 495, 3) := by decide +kernel
theorem d15 : decode yB 15 = .ok (.ireturn, 1) := by decide +kernel
def site : List Cond := [.fieldLink "java/lang/String" 9 "java/lang/String" "value" "[B", IsL.tab, LChA.tab] ++ virtW "java/lang/String" 492 "java/lang/String" IsL.yN IsL.yN ++ staticW "java/lang/String" 495 LChA.yN
def tab : Cond := tabOf yN yB 2 (some .char) site
def P (x t : Addr) (V : Cell) (n : Nat) (f : Nat → Int32) (z : Int32) (fm : Value) (i : Nat) (args : Array Value) (s : State) : Prop := args = #[.ref x, .int (Int32.ofNat i)] ∧ Txt x t V 0 n f s ∧ i < n ∧ StaticIs s "java/lang/String" "COMPACT_STRINGS" "Z" (.int z) ∧ ¬ z = 0 ∧ StaticIs s "jdk/internal/util/Preconditions" "SIOOBE_FORMATTER" "Ljava/util/function/BiFunction;" fm ∧ fm.isRef = true
def E (f : Nat → Int32) (i : Nat) (r : Option Value) (s u : State) : Prop := XT.PureE (some (.int (f i))) r s u
/-- charAt(i) of a Latin-1 String of n chars, i < n: f i -/
theorem law (l : Launch) (x t : Addr) (V : Cell) (n : Nat) (f : Nat → Int32) (z : Int32) (fm : Value) (i : Nat) : Law l yN 2 1 3 40 yB 2 (some .char) site (P x t V n f z fm i) (E f i) [] 0 0 := by
  refine Law.of_walk (plainFor_of_name (by decide +kernel)) (by decide +kernel) (by decide +kernel) (by decide) (fun _ _ h => by rw [h.1]; rfl) (fun _ U U' hal hh h => ⟨h.1, h.2.1.mv hal hh, h.2.2.1, h.2.2.2.1.there hal hh, h.2.2.2.2.1, h.2.2.2.2.2.1.there hal hh, h.2.2.2.2.2.2⟩) (fun r U U' V V' h1 hal h2 h => XT.PureE.mv r U U' V V' h1 hal h2 h) ?_
  intro p e s m args below meth c s₁ X0 hexec hbytes hml hret hlk hnm hown hh0 W hP
  obtain ⟨rfl, hx, hi, s1, hz, s3, rf⟩ := hP
  have v31 := hx.2.2.2.1.2.2.2
  have hr := hx.2.2.2.2.2 i hi
  have hx0 := hx.mv X0.warmed.alike hh0
  have c1 : Steps p.tables e below (s₁.setTop (entryFrame m #[.ref x, .int (Int32.ofNat i)] 2)) (s₁.setTop (mkF m 1 #[.val (.ref x), .val (.int (Int32.ofNat i))] [.ref x])) := Steps.trans (entry rfl) (by
    show Steps p.tables e below (s₁.setTop (mkF m 0 #[.val (.ref x), .val (.int (Int32.ofNat i))] [])) _
    refine XS.aloadN X0.here hexec rfl (hb hbytes d0) rfl rfl ?_
    exact Steps.refl _)
  obtain ⟨v2, T2, X2, E2, g2⟩ := X0.callV hexec (IsL.law l x 0 z) hown (wks W (virtW "java/lang/String" 492 "java/lang/String" IsL.yN IsL.yN)) rfl (by decide) (wk W IsL.tab) (W := 0) (Nat.le_of_ble_eq_true rfl) (Nat.le_of_ble_eq_true rfl) (Nat.le_refl _) (Nat.le_refl _) (hx0.1.fc X0.warmed.alike) hx0.1.is (g := (mkF m 1 #[.val (.ref x), .val (.int (Int32.ofNat i))] [.ref x])) rfl (by rw [hml]; rfl) c1 (argsL := []) (rest := []) rfl rfl (by show 2 * 0 + 0 ≤ _; decide) (hb hbytes d1) (⟨rfl, hx0.2.2.1, hx.2.2.2.2.1.cd, s1.there X0.warmed.alike hh0, hz⟩)
  obtain ⟨rfl, q2⟩ := E2
  have hh2 := q2.trans hh0
  have hx2 := hx.mv X2.warmed.alike hh2
  obtain ⟨-, k1, k2⟩ | ⟨k0, -⟩ := hx.2.2.2.2.1
  · have c3 : Steps p.tables e below (s₁.setTop (entryFrame m #[.ref x, .int (Int32.ofNat i)] 2)) (T2.setTop (mkF m 8 #[.val (.ref x), .val (.int (Int32.ofNat i))] [.ref x])) := Steps.trans g2 (by
      refine XS.ifNo X2.here hexec rfl (hb hbytes d4) rfl (i0_eq_f (by decide)) ?_
      refine XS.aloadN X2.here hexec rfl (hb hbytes d7) rfl rfl ?_
      exact Steps.refl _)
    obtain ⟨T4, X4, q4, st4⟩ := X2.hget hexec hown (wk W (.fieldLink "java/lang/String" 9 "java/lang/String" "value" "[B")) hx2.2.1 (g := (mkF m 8 #[.val (.ref x), .val (.int (Int32.ofNat i))] [.ref x])) rfl (rest := []) rfl (hb hbytes d8)
    have hh4 := q4.trans hh2
    have c5 : Steps p.tables e below (s₁.setTop (entryFrame m #[.ref x, .int (Int32.ofNat i)] 2)) (T4.setTop (mkF m 12 #[.val (.ref x), .val (.int (Int32.ofNat i))] [.int (Int32.ofNat i), .ref t])) := (c3.trans (st4 _ (Steps.refl _))).trans (by
      refine XS.iloadN X4.here hexec rfl (hb hbytes d11) rfl ?_
      exact Steps.refl _)
    obtain ⟨v6, T6, X6, E6, g6⟩ := X4.callS hexec (LChA.law l t V i (lo8 (f i)) fm) hown (wks W (staticW "java/lang/String" 495 LChA.yN)) (wk W LChA.tab) (W := 0) (Nat.le_of_ble_eq_true rfl) (Nat.le_of_ble_eq_true rfl) (Nat.le_refl _) (Nat.le_refl _) (g := (mkF m 12 #[.val (.ref x), .val (.int (Int32.ofNat i))] [.int (Int32.ofNat i), .ref t])) rfl (by rw [hml]; rfl) c5 (argsL := [.ref t, .int (Int32.ofNat i)]) (rest := []) rfl rfl (by show 2 * 0 + 0 ≤ _; decide) (hb hbytes d12) (⟨rfl, hx.2.2.2.1.mv X4.warmed.alike hh4, (k2 i hi).1, s3.there X4.warmed.alike hh4, rf⟩)
    obtain ⟨rfl, q6⟩ := E6
    rw [chr8_lo8 hr.1 (k2 i hi).2] at g6
    exact ⟨T6, some (.int (f i)), _, _, _, X6, rfl, rfl, rfl, (fun h => by cases h), ⟨rfl, q6.trans hh4⟩, fun fs hl => Steps.trans g6 (X6.ireturnOut hexec hret (narrow_ch hr.1 hr.2) (Or.inr (Or.inr (Or.inr (Or.inl rfl)))) (hb hbytes d15) hl)⟩
  · exact absurd k0 (by decide)
theorem pays {l : Launch} {R : Room} {p : Program} {e : Env} {below : List Frame} {s : State} {sargs : Array Value} {len W : Nat} (x t : Addr) (V : Cell) (n : Nat) (f : Nat → Int32) (z : Int32) (fm : Value) (i : Nat) (htab : tab.before sargs s = true) (hfr : 4 ≤ R.frames) (hlo : W + 53 ≤ R.locals) :
    Back l R p e below s sargs yN len W (fun A₁ a₁ => A₁.cells + 0 ≤ R.cells ∧ A₁.slots + 0 ≤ R.slots ∧ P x t V n f z fm i a₁ A₁.U) (fun A₁ _ v₁ B₁ => E f i v₁ A₁.U B₁.U ∧ B₁.locs = A₁.locs ++ [] ∧ B₁.cells = A₁.cells + 0 ∧ B₁.slots = A₁.slots + 0) :=
  (law l x t V n f z fm i).pays htab hfr (by omega)
end ChN
end StrChars
namespace StrChars.Road
open Jvm Sem ClassFile Op Lib Jvm.Stand Jvm.Free Jvm.Free.XT
open Jvm.Lib.Cold (StaticIs)
/-- the words of String.charAt(int), the Latin-1 road alone -/
abbrev wordsChN : List Jvm.Cond := [.code ChN.yN ChN.yB 2 (some .char), .initialized ST, .fieldLink ST 9 ST "value" "[B", .fieldLink ST 38 ST "COMPACT_STRINGS" "Z", .fieldLink ST 15 ST "coder" "B", .code IsL.yN IsL.yB 1 (some .boolean), .methodLink ST 492 IsL.yN, .declares IsL.yN, .selects ST IsL.yN IsL.yN, .instanceMethod IsL.yN,
  .methodLink ST 495 LChA.yN, .static LChA.yN, .code LChA.yN LChA.yB 2 (some .char), .initialized "java/lang/StringLatin1", .methodLink "java/lang/StringLatin1" 9 JO.Str_checkIndex.yN, .static JO.Str_checkIndex.yN, .code JO.Str_checkIndex.yN JO.Str_checkIndex.yB 2 none,
  .fieldLink ST 1053 "jdk/internal/util/Preconditions" "SIOOBE_FORMATTER" "Ljava/util/function/BiFunction;", .methodLink ST 1059 JC.PreCheck.yN, .static JC.PreCheck.yN, .code JC.PreCheck.yN JC.PreCheck.yB 3 (some .int), .initialized "jdk/internal/util/Preconditions"]
theorem tabChN_of {a : Array Value} {s : State} (h : ∀ w ∈ wordsChN, w.before a s = true) : ChN.tab.before a s = true := by
  have hp : JC.PreCheck.tab.before a s = true := unparts (wk h (.code JC.PreCheck.yN JC.PreCheck.yB 3 (some .int))) (wks h (.initialized JC.PreCheck.yN.cls :: JC.PreCheck.site))
  have qk := consq hp h
  have hk : JO.Str_checkIndex.tab.before a s = true := unparts (wk qk (.code JO.Str_checkIndex.yN JO.Str_checkIndex.yB 2 none)) (wks qk (.initialized JO.Str_checkIndex.yN.cls :: JO.Str_checkIndex.site))
  have ql := consq hk h
  have hl : LChA.tab.before a s = true := unparts (wk ql (.code LChA.yN LChA.yB 2 (some .char))) (wks ql (.initialized LChA.yN.cls :: LChA.site))
  have hi : IsL.tab.before a s = true := unparts (wk h (.code IsL.yN IsL.yB 1 (some .boolean))) (wks h (.initialized IsL.yN.cls :: IsL.site))
  have q := consq hi (consq hl h)
  exact unparts (wk q (.code ChN.yN ChN.yB 2 (some .char))) (wks q (.initialized ChN.yN.cls :: ChN.site))
theorem movedChN {Z s : State} {a0 args : Array Value} (hZ : Z.Warmed39 s.vm) (hw : ∀ d ∈ wordsChN, d.before a0 Z = true) : ∀ d ∈ wordsChN, d.before args s = true := fun d hd => by
  have t : ∀ d ∈ wordsChN, (d.onTables && d.keepsFace) = true := by decide +kernel
  exact RoadKit.mv hZ (hw d hd) (t d hd)
/-- **charAt(i) OF A LATIN-1 STRING**, i < n: the char -/
theorem chN {p : Program} {l : Launch} {e : Env} {R : Room} {s : State} {args : Array Value} {below : List Frame} {len W : Nat} {Z : State} {a0 : Array Value} {h : Heap} (hZ : Z.Warmed39 s.vm) (hw : ∀ d ∈ wordsChN, d.before a0 Z = true) {kI : Nat} (wi : (Jvm.Cond.instantiable ST kI).before a0 Z = true)
    {x t : Addr} {kb : ClassId} {cs : List Int32} {N2 z : Int32} {vs : List Value} {fm : Value} {i : Nat} {j : Int32} (E : RoadKit.Exa Z h x ST) (V : RoadKit.Fld Z h x ST "value" "[B" (.ref t)) (C : RoadKit.Fld Z h x ST "coder" "B" (.int 0)) (K : RoadKit.Arv Z h t kb .byte N2 vs (.int 0)) (hc : CodA cs 0 N2 vs) (hb : ∀ c ∈ cs, ¬ c < 0 ∧ ¬ (65535 : Int32) < c)
    (S : RoadKit.Sta Z h ST "COMPACT_STRINGS" "Z" (.int z)) (hz : ¬ z = 0) (F : RoadKit.Sta Z h "jdk/internal/util/Preconditions" "SIOOBE_FORMATTER" "Ljava/util/function/BiFunction;" fm) (rf : fm.isRef = true) (l2 : cs.length ≤ 4000) (hi : i < cs.length) (hj : j = Int32.ofNat i) (hfr : 4 ≤ R.frames) (hlo : W + 53 ≤ R.locals) :
    Back l R p e below s args (⟨"java/lang/String", "charAt", "(I)C"⟩ : MethodName) len W (fun P a => a = #[.ref x, .int j] ∧ P.U.heap = h ∧ P.cells + 0 ≤ R.cells ∧ P.slots + 0 ≤ R.slots)
      (fun P _ v B => ∃ L, (v = some (.int (cs.getD i 0)) ∧ L = [] ∧ B.U.heap = h) ∧ B.locs = P.locs ++ L ∧ B.cells = P.cells + 0 ∧ B.slots = P.slots + 0) := by
  subst hj
  intro m meth c P g ig mk a X hg hsize hdg hW hn hp'
  obtain ⟨rfl, rfl, r1, r2⟩ := hp'
  have al : Z.vm.Alike P.U.vm := hZ.alike.trans X.warmed.alike
  obtain ⟨A, hx⟩ := txt_of wi al E V C K hc hb l2
  obtain ⟨v, B, X', ⟨⟨hv, hh⟩, hl, hk, hs⟩, st⟩ := ChN.pays x t A cs.length (fun j => cs.getD j 0) z fm i (tabChN_of (movedChN hZ hw)) hfr hlo m meth c P g ig mk _ X hg hsize hdg hW hn ⟨r1, r2, rfl, hx, hi, sta_is al S, hz, sta_is al F, rf⟩
  exact ⟨v, B, X', ⟨[], ⟨hv, rfl, hh⟩, hl, hk, hs⟩, st⟩
/-- what backV says of its String, as the contracts of this text ask it: cs's low bytes, coder 0 -/
theorem codOf {cs : List Int32} {n : Nat} (hn : cs.length = n) (hb : ∀ c ∈ cs, ¬ 255 < c) : CodA cs 0 (Int32.ofNat n) ((cs.map lo8).map Value.int) := Or.inl ⟨rfl, by rw [hn], by simp [List.map_map, Function.comp_def], hb⟩
end StrChars.Road
end Jvm.Pilot.@@N@@
namespace Jvm.Pilot.@@N@@.W
open Jvm Jvm.ClassFile Sem Op Lib Jvm.Free Jvm.Stand Jvm.LawKit Jvm.RoadKit
/-- a String with the chars cs -/
def Str (Z : State) (h : Heap) (a : Addr) (cs : List Int32) : Prop :=
  ∃ (t : Addr) (kb : ClassId) (cd N2 : Int32) (vs : List Value), Exa Z h a "java/lang/String" ∧ Fld Z h a "java/lang/String" "value" "[B" (.ref t) ∧ Fld Z h a "java/lang/String" "coder" "B" (.int cd) ∧ Arv Z h t kb .byte N2 vs (.int 0) ∧ StrChars.Road.CodA cs cd N2 vs ∧ (∀ c ∈ cs, ¬ c < 0 ∧ ¬ (65535 : Int32) < c) ∧ cs.length ≤ 4000
theorem Str.ext {Z : State} {h h' : Heap} {a : Addr} {cs : List Int32} (F : Str Z h a cs) (E : Ext h h') : Str Z h' a cs := by
  obtain ⟨t, kb, cd, N2, vs, f1, f2, f3, f4, f5⟩ := F
  exact ⟨t, kb, cd, N2, vs, f1.ext E, f2.ext E, f3.ext E, f4.ext E, f5⟩
theorem Str.exa {Z : State} {h : Heap} {a : Addr} {cs : List Int32} (F : Str Z h a cs) : Exa Z h a "java/lang/String" := by
  obtain ⟨t, kb, cd, N2, vs, f1, -⟩ := F; exact f1
theorem up16 {cs : List Int32} (h : ∀ c ∈ cs, ¬ c < 0 ∧ ¬ (255 : Int32) < c) : ∀ c ∈ cs, ¬ c < 0 ∧ ¬ (65535 : Int32) < c := fun c hc => ⟨(h c hc).1, fun q => (h c hc).2 (by rw [Int32.lt_iff_toInt_lt] at q ⊢; have e1 : (65535 : Int32).toInt = 65535 := rfl; have e2 : (255 : Int32).toInt = 255 := rfl; omega)⟩
/-- a text's chars -/
def chs (text : String) : List Int32 := text.toList.map fun c => Int32.ofNat c.toNat
theorem Str.lit {Z : State} {h : Heap} {xs : List Addr} {a : Addr} {text : String} (hlat : ∀ c ∈ text.toList, c.toNat < 256) (hlen : text.toList.length ≤ 4000) (F : ∃ units : Array UInt16, utf16ToString? units = some text ∧ Lt Z h xs a units) : Str Z h a (chs text) := by
  obtain ⟨units, hu, t, kb, f1, f2, f3, f4, -, -⟩ := F
  have e := Jvm.ClassFile.units_of_text hu hlat
  have hsz : units.size = (chs text).length := by rw [← Array.length_toList, e]; simp [chs]
  have t255 : ∀ k : Fin 256, Jvm.Lit.byteI (k.val.toUInt16) = (Int32.ofNat k.val).toInt8.toInt32 ∧ ¬ (255 : Int32) < Int32.ofNat k.val ∧ ¬ Int32.ofNat k.val < 0 := by decide +kernel
  have hb : ∀ c ∈ chs text, ¬ c < 0 ∧ ¬ (255 : Int32) < c := fun c hc => by
    obtain ⟨ch, h1, rfl⟩ := List.mem_map.mp hc
    exact ⟨(t255 ⟨_, hlat ch h1⟩).2.2, (t255 ⟨_, hlat ch h1⟩).2.1⟩
  refine ⟨t, kb, 0, _, _, f1, f2, f3, f4, Or.inl ⟨rfl, by rw [hsz], ?_, fun c hc => (hb c hc).2⟩, up16 hb, by simpa [chs] using hlen⟩
  rw [e]
  simp only [chs, List.map_map]
  refine List.map_congr_left fun ch h1 => ?_
  exact congrArg Value.int (t255 ⟨_, hlat ch h1⟩).1
/-- a constructor's writes into an object that is no String leave every String -/
theorem Str.keepO {Z : State} {h h' : Heap} {s a : Addr} {C : String} {cs : List Int32} {a0 : Array Value} {n : Nat} (F : Str Z h s cs) (E : Exa Z h a C) (hC : C ≠ "java/lang/String") (wi : (Cond.instantiable C n).before a0 Z = true) (K : Keep h h' [a]) : Str Z h' s cs := by
  obtain ⟨t, kb, cd, N2, vs, f1, f2, f3, f4, f5⟩ := F
  have n1 : s ∉ [a] := ninS (fun q => (Exa.ne E f1 hC) q.symm) nin0
  have n2 : t ∉ [a] := ninS (fun q => (Exa.neArv E f4 wi) q.symm) nin0
  exact ⟨t, kb, cd, N2, vs, f1.keep K, f2.keep K n1, f3.keep K n1, f4.keep K n2, f5⟩
section Rules
variable {p : Program} {l : Launch} {e : Env} {R : Room} {s : State} {m : MethodId} {args : Array Value} {below : List Frame} {meth : Method} {c : Code} {Z : State} {a0 : Array Value} {own mn : String} {cl : List (String × Nat)} {xs0 xs : List Addr} {bytes : ByteArray} {maxL : Nat} {ret : Option FieldType} {n0 kc ks : Nat} {Q : Option Value → Heap → Prop} {h : Heap} {cells slots : Nat} {pc q : Nat} {L : Array Slot} {S : List Value}
/-- new String(char[]): 1 to 4,000 chars, each 0 to 255 -/
theorem Go.newStr (K : Cx0 bytes maxL ret mn p meth c) (hq : pc + 3 = q) (hws : ∀ d ∈ StrChars.Road.words, d.before a0 Z = true) (wi : (Cond.instantiable "java/lang/String" 4).before a0 Z = true) {i : Nat} {bytes' : ByteArray} (w1 : (Cond.methodLink own i (⟨"java/lang/String", "<init>", "([C)V"⟩ : MethodName)).before a0 Z = true) (w2 : (Cond.instanceMethod (⟨"java/lang/String", "<init>", "([C)V"⟩ : MethodName)).before a0 Z = true) (w4 : (Cond.code (⟨"java/lang/String", "<init>", "([C)V"⟩ : MethodName) bytes' 2 none).before a0 Z = true)
    {x b : Addr} {kC : ClassId} {cs : List Int32} {d v0 c0 : Value} {z N : Int32} {n : Nat} (hx0 : n0 ≤ x) (hh0 : n0 ≤ h.size) (E : Exa Z h x "java/lang/String") (V : Fld Z h x "java/lang/String" "value" "[B" v0) (C : Fld Z h x "java/lang/String" "coder" "B" c0) (A : Arv Z h b kC .char N (cs.map Value.int) d) (Sa : Sta Z h "java/lang/String" "COMPACT_STRINGS" "Z" (.int z)) (hz : ¬ z = 0)
    (hn : cs.length = n) (hN : N = Int32.ofNat n) (l0 : 0 < n) (l2 : n ≤ 4000) (hp : ∀ c ∈ cs, ¬ c < 0 ∧ ¬ (255 : Int32) < c) (hd : decode bytes pc = .ok (.invokespecial i, 3)) (hax : x ∈ xs) (hfr : 4 ≤ R.frames) {W cells' slots' : Nat} (hsz : L.size = maxL) (hW : (S.map fun v => v.category).sum ≤ W) (hlo : W + 65 ≤ R.locals) (hc : cells + 1 = cells') (hs : slots + n = slots') (hc' : cells' ≤ R.cells) (hs' : slots' ≤ R.slots)
    (r : ∀ h', Keep h h' [x] → Str Z h' x cs → Go p l e R s m args below meth c Z own cl xs0 n0 kc ks Q xs h' cells' slots' (mkF m q L S)) : Go p l e R s m args below meth c Z own cl xs0 n0 kc ks Q xs h cells slots (mkF m pc L (.ref b :: .ref x :: S)) :=
  Go.bI K hq rfl w1 w2 w4 (by decide) (fun s' hZ => StrChars.Road.backV (W := W) hZ hws (kI := 4) wi (cs := cs) (bs := cs.map (fun c => c.toInt8.toInt32)) (n := n) hx0 hh0 E V C A Sa hz hn hN l0 l2 hp rfl hfr hlo) (sig := ⟨[.array .char], none⟩) (by decide +kernel) (a := x) (argsL := [.ref b]) (rest := S) rfl rfl rfl hsz hW hd hc hs hc' hs'
    (fun v h' L' hQ => by
      obtain ⟨rfl, N', KK, g1, g2, t, kb, u1, u2, u3, g3, g4⟩ := hQ
      refine ⟨N', KK.1, xs, fun vm H => H.keep KK (allS hax all0), r h' KK ⟨t, kb, 0, N, _, g1, g3, g2, g4, ?_, up16 hp, by omega⟩⟩
      subst hN
      exact StrChars.Road.codOf hn (fun c hc => (hp c hc).2))
/-- equals of two Strings -/
theorem Go.strEq (K : Cx0 bytes maxL ret mn p meth c) (hq : pc + 3 = q) (hws : ∀ d ∈ StrChars.Road.wordsEq, d.before a0 Z = true) (wi : (Cond.instantiable "java/lang/String" 4).before a0 Z = true) {i : Nat} {y : MethodName} (w1 : (Cond.methodLink own i y).before a0 Z = true) (w2 : (Cond.declares y).before a0 Z = true) (nf : ∀ s' : State, Z.Warmed39 s'.vm → NotFace s' y) (w3 : (Cond.selects "java/lang/String" y (⟨"java/lang/String", "equals", "(Ljava/lang/Object;)Z"⟩ : MethodName)).before a0 Z = true) (w4 : (Cond.instanceMethod (⟨"java/lang/String", "equals", "(Ljava/lang/Object;)Z"⟩ : MethodName)).before a0 Z = true) (hy : y.cls ≠ "java/lang/invoke/MethodHandle" ∧ y.cls ≠ "java/lang/invoke/VarHandle") (hyd : y.desc = "(Ljava/lang/Object;)Z")
    {a b : Addr} {cs ds : List Int32} {z : Int32} (F : Str Z h a cs) (G : Str Z h b ds) (Sa : Sta Z h "java/lang/String" "COMPACT_STRINGS" "Z" (.int z)) (hz : ¬ z = 0) (hd : decode bytes pc = .ok (.invokevirtual i, 3)) (hfr : 2 ≤ R.frames) {W : Nat} (hsz : L.size = maxL) (hW : (S.map fun v => v.category).sum ≤ W) (hlo : W + 28 ≤ R.locals) (hc : cells ≤ R.cells) (hs : slots ≤ R.slots)
    (r1 : cs = ds → Go p l e R s m args below meth c Z own cl xs0 n0 kc ks Q xs h cells slots (mkF m q L (.int 1 :: S))) (r0 : ¬ cs = ds → Go p l e R s m args below meth c Z own cl xs0 n0 kc ks Q xs h cells slots (mkF m q L (.int 0 :: S))) : Go p l e R s m args below meth c Z own cl xs0 n0 kc ks Q xs h cells slots (mkF m pc L (.ref b :: .ref a :: S)) := by
  obtain ⟨t, kb, cd, N2, vs, f1, f2, f3, f4, f5, f6, f7⟩ := F
  obtain ⟨t', kb', cd', N2', vs', g1, g2, g3, g4, g5, g6, g7⟩ := G
  exact Go.bV K hq w1 w2 nf w3 w4 hy (W := W) (dc := 0) (ds := 0) (QQ := fun v h' L => ((v = some (.int 1) ∧ cs = ds) ∨ (v = some (.int 0) ∧ ¬ cs = ds)) ∧ L = [] ∧ h' = h) (fun s' hZ => StrChars.Road.eqW (W := W) hZ hws (kI := 4) wi f1 f2 f3 f4 f5 f6 f7 g1 g2 g3 g4 g5 g6 g7 Sa hz hfr hlo) f1 (sig := ⟨[.object "java/lang/Object"], some .boolean⟩) (by rw [hyd]; decide +kernel) (argsL := [.ref b]) (rest := S) rfl rfl rfl hsz hW hd rfl rfl hc hs
    (fun v h' L' hQ => by
      obtain ⟨hv, rfl, rfl⟩ := hQ
      refine ⟨Fr.nil n0, Nat.le_refl _, xs, fun vm H => H, ?_⟩
      rcases hv with ⟨rfl, q1⟩ | ⟨rfl, q1⟩
      · exact r1 q1
      · exact r0 q1)
/-- length() -/
theorem Go.strLen (K : Cx0 bytes maxL ret mn p meth c) (hq : pc + 3 = q) (hws : ∀ d ∈ StrChars.Road.wordsLen, d.before a0 Z = true) (wi : (Cond.instantiable "java/lang/String" 4).before a0 Z = true) {i : Nat} (w1 : (Cond.methodLink own i (⟨"java/lang/String", "length", "()I"⟩ : MethodName)).before a0 Z = true) (w2 : (Cond.declares (⟨"java/lang/String", "length", "()I"⟩ : MethodName)).before a0 Z = true) (w3 : (Cond.selects "java/lang/String" (⟨"java/lang/String", "length", "()I"⟩ : MethodName) (⟨"java/lang/String", "length", "()I"⟩ : MethodName)).before a0 Z = true) (w4 : (Cond.instanceMethod (⟨"java/lang/String", "length", "()I"⟩ : MethodName)).before a0 Z = true)
    {a : Addr} {cs : List Int32} {z : Int32} (F : Str Z h a cs) (Sa : Sta Z h "java/lang/String" "COMPACT_STRINGS" "Z" (.int z)) (hz : ¬ z = 0) (hd : decode bytes pc = .ok (.invokevirtual i, 3)) (hfr : 2 ≤ R.frames) {W : Nat} (hsz : L.size = maxL) (hW : (S.map fun v => v.category).sum ≤ W) (hlo : W + 25 ≤ R.locals) (hc : cells ≤ R.cells) (hs : slots ≤ R.slots)
    (r : Go p l e R s m args below meth c Z own cl xs0 n0 kc ks Q xs h cells slots (mkF m q L (.int (Int32.ofNat cs.length) :: S))) : Go p l e R s m args below meth c Z own cl xs0 n0 kc ks Q xs h cells slots (mkF m pc L (.ref a :: S)) := by
  obtain ⟨t, kb, cd, N2, vs, f1, f2, f3, f4, f5, f6, f7⟩ := F
  exact Go.bV K hq w1 w2 (nfS w3) w3 w4 (by decide) (W := W) (dc := 0) (ds := 0) (QQ := fun v h' L => v = some (.int (Int32.ofNat cs.length)) ∧ L = [] ∧ h' = h) (fun s' hZ => StrChars.Road.lenW (W := W) hZ hws (kI := 4) wi f1 f2 f3 f4 f5 f6 Sa hz f7 hfr hlo) f1 (sig := ⟨[], some .int⟩) (by decide +kernel) (argsL := []) (rest := S) rfl rfl rfl hsz hW hd rfl rfl hc hs
    (fun v h' L' hQ => by
      obtain ⟨rfl, rfl, rfl⟩ := hQ
      exact ⟨Fr.nil n0, Nat.le_refl _, xs, fun vm H => H, r⟩)
/-- charAt(int) of a String whose chars are 0 to 255 -/
theorem Go.strCh (K : Cx0 bytes maxL ret mn p meth c) (hq : pc + 3 = q) (hws : ∀ d ∈ StrChars.Road.wordsChN, d.before a0 Z = true) (wi : (Cond.instantiable "java/lang/String" 4).before a0 Z = true) {i : Nat} (w1 : (Cond.methodLink own i (⟨"java/lang/String", "charAt", "(I)C"⟩ : MethodName)).before a0 Z = true) (w2 : (Cond.declares (⟨"java/lang/String", "charAt", "(I)C"⟩ : MethodName)).before a0 Z = true) (w3 : (Cond.selects "java/lang/String" (⟨"java/lang/String", "charAt", "(I)C"⟩ : MethodName) (⟨"java/lang/String", "charAt", "(I)C"⟩ : MethodName)).before a0 Z = true) (w4 : (Cond.instanceMethod (⟨"java/lang/String", "charAt", "(I)C"⟩ : MethodName)).before a0 Z = true)
    {a : Addr} {cs : List Int32} {z j : Int32} {n : Nat} {fm : Value} (F : Str Z h a cs) (Sa : Sta Z h "java/lang/String" "COMPACT_STRINGS" "Z" (.int z)) (hz : ¬ z = 0) (Sf : Sta Z h "jdk/internal/util/Preconditions" "SIOOBE_FORMATTER" "Ljava/util/function/BiFunction;" fm) (rf : fm.isRef = true) (hlat : ∀ c ∈ cs, ¬ (255 : Int32) < c) (hn : n < cs.length) (hj : j = Int32.ofNat n) (hd : decode bytes pc = .ok (.invokevirtual i, 3)) (hfr : 4 ≤ R.frames) {W : Nat} (hsz : L.size = maxL) (hW : (S.map fun v => v.category).sum ≤ W) (hlo : W + 53 ≤ R.locals) (hc : cells ≤ R.cells) (hs : slots ≤ R.slots)
    (r : Go p l e R s m args below meth c Z own cl xs0 n0 kc ks Q xs h cells slots (mkF m q L (.int (cs.getD n 0) :: S))) : Go p l e R s m args below meth c Z own cl xs0 n0 kc ks Q xs h cells slots (mkF m pc L (.int j :: .ref a :: S)) := by
  obtain ⟨t, kb, cd, N2, vs, f1, f2, f3, f4, f5, f6, f7⟩ := F
  have e0 : cd = 0 := by
    rcases f5 with z | ⟨-, -, -, x, hx, q⟩
    · exact z.1
    · exact absurd q (hlat x hx)
  subst e0
  exact Go.bV K hq w1 w2 (nfS w3) w3 w4 (by decide) (W := W) (dc := 0) (ds := 0) (QQ := fun v h' L => v = some (.int (cs.getD n 0)) ∧ L = [] ∧ h' = h) (fun s' hZ => StrChars.Road.chN (W := W) hZ hws (kI := 4) wi f1 f2 f3 f4 f5 f6 Sa hz Sf rf f7 hn hj hfr hlo) f1 (sig := ⟨[.int], some .char⟩) (by decide +kernel) (argsL := [.int j]) (rest := S) rfl rfl rfl hsz hW hd rfl rfl hc hs
    (fun v h' L' hQ => by
      obtain ⟨rfl, rfl, rfl⟩ := hQ
      exact ⟨Fr.nil n0, Nat.le_refl _, xs, fun vm H => H, r⟩)
end Rules
end Jvm.Pilot.@@N@@.W
namespace Jvm.Pilot.@@N@@
open Jvm Jvm.ClassFile Sem Op Lib Jvm.Free Jvm.Stand Jvm.LawKit Jvm.RoadKit Bundle Jvm.Pilot.@@N@@.W Jvm.Pilot.@@N@@.Jvm.D
theorem d24_0 : decode jdk_31_method_10_code 0 = .ok (.aload_n 0, 1) := by decide +kernel
theorem d24_1 : decode jdk_31_method_10_code 1 = .ok (.ifnonnull 11, 3) := by decide +kernel
theorem d24_12 : decode jdk_31_method_10_code 12 = .ok (.aload_n 0, 1) := by decide +kernel
theorem d24_13 : decode jdk_31_method_10_code 13 = .ok (.areturn, 1) := by decide +kernel
theorem d25_0 : decode jdk_32_method_2_code 0 = .ok (.aload_n 0, 1) := by decide +kernel
theorem d25_1 : decode jdk_32_method_2_code 1 = .ok (.invokespecial 7, 3) := by decide +kernel
theorem d25_4 : decode jdk_32_method_2_code 4 = .ok (.aload_n 0, 1) := by decide +kernel
theorem d25_5 : decode jdk_32_method_2_code 5 = .ok (.aload_n 1, 1) := by decide +kernel
theorem d25_6 : decode jdk_32_method_2_code 6 = .ok (.putfield 13, 3) := by decide +kernel
theorem d25_9 : decode jdk_32_method_2_code 9 = .ok (.return_, 1) := by decide +kernel
theorem d23_0 : decode jdk_32_method_3_code 0 = .ok (.new 2, 3) := by decide +kernel
theorem d23_3 : decode jdk_32_method_3_code 3 = .ok (.dup, 1) := by decide +kernel
theorem d23_4 : decode jdk_32_method_3_code 4 = .ok (.aload_n 0, 1) := by decide +kernel
theorem d23_5 : decode jdk_32_method_3_code 5 = .ok (.invokestatic 17, 3) := by decide +kernel
theorem d23_8 : decode jdk_32_method_3_code 8 = .ok (.invokespecial 23, 3) := by decide +kernel
theorem d23_11 : decode jdk_32_method_3_code 11 = .ok (.areturn, 1) := by decide +kernel
theorem d13_0 : decode jdk_32_method_1_code 0 = .ok (.getstatic 1, 3) := by decide +kernel
theorem d13_3 : decode jdk_32_method_1_code 3 = .ok (.astore_n 0, 1) := by decide +kernel
theorem d13_4 : decode jdk_32_method_1_code 4 = .ok (.aload_n 0, 1) := by decide +kernel
theorem d13_5 : decode jdk_32_method_1_code 5 = .ok (.areturn, 1) := by decide +kernel
theorem d14_0 : decode jdk_32_method_6_code 0 = .ok (.aload_n 0, 1) := by decide +kernel
theorem d14_1 : decode jdk_32_method_6_code 1 = .ok (.getfield 13, 3) := by decide +kernel
theorem d14_4 : decode jdk_32_method_6_code 4 = .ok (.ifnull 7, 3) := by decide +kernel
theorem d14_11 : decode jdk_32_method_6_code 11 = .ok (.iconst 0, 1) := by decide +kernel
theorem d14_12 : decode jdk_32_method_6_code 12 = .ok (.ireturn, 1) := by decide +kernel
theorem d14_7 : decode jdk_32_method_6_code 7 = .ok (.iconst 1, 1) := by decide +kernel
theorem d14_8 : decode jdk_32_method_6_code 8 = .ok (.goto 4, 3) := by decide +kernel
theorem d26_0 : decode jdk_32_method_5_code 0 = .ok (.aload_n 0, 1) := by decide +kernel
theorem d26_1 : decode jdk_32_method_5_code 1 = .ok (.getfield 13, 3) := by decide +kernel
theorem d26_4 : decode jdk_32_method_5_code 4 = .ok (.ifnonnull 13, 3) := by decide +kernel
theorem d26_17 : decode jdk_32_method_5_code 17 = .ok (.aload_n 0, 1) := by decide +kernel
theorem d26_18 : decode jdk_32_method_5_code 18 = .ok (.getfield 13, 3) := by decide +kernel
theorem d26_21 : decode jdk_32_method_5_code 21 = .ok (.areturn, 1) := by decide +kernel
theorem d4_0 : decode jdk_42_method_149_code 0 = .ok (.aload_n 0, 1) := by decide +kernel
theorem d4_1 : decode jdk_42_method_149_code 1 = .ok (.invokespecial 1, 3) := by decide +kernel
theorem d4_4 : decode jdk_42_method_149_code 4 = .ok (.iload_n 3, 1) := by decide +kernel
theorem d4_5 : decode jdk_42_method_149_code 5 = .ok (.ifCond .ne 22, 3) := by decide +kernel
theorem d4_8 : decode jdk_42_method_149_code 8 = .ok (.aload_n 0, 1) := by decide +kernel
theorem d4_9 : decode jdk_42_method_149_code 9 = .ok (.ldc 7, 2) := by decide +kernel
theorem d4_11 : decode jdk_42_method_149_code 11 = .ok (.getfield 9, 3) := by decide +kernel
theorem d4_14 : decode jdk_42_method_149_code 14 = .ok (.putfield 9, 3) := by decide +kernel
theorem d4_17 : decode jdk_42_method_149_code 17 = .ok (.aload_n 0, 1) := by decide +kernel
theorem d4_18 : decode jdk_42_method_149_code 18 = .ok (.ldc 7, 2) := by decide +kernel
theorem d4_20 : decode jdk_42_method_149_code 20 = .ok (.getfield 15, 3) := by decide +kernel
theorem d4_23 : decode jdk_42_method_149_code 23 = .ok (.putfield 15, 3) := by decide +kernel
theorem d4_26 : decode jdk_42_method_149_code 26 = .ok (.return_, 1) := by decide +kernel
theorem d3_0 : decode jdk_42_method_3_code 0 = .ok (.aload_n 0, 1) := by decide +kernel
theorem d3_1 : decode jdk_42_method_3_code 1 = .ok (.aload_n 1, 1) := by decide +kernel
theorem d3_2 : decode jdk_42_method_3_code 2 = .ok (.iconst 0, 1) := by decide +kernel
theorem d3_3 : decode jdk_42_method_3_code 3 = .ok (.aload_n 1, 1) := by decide +kernel
theorem d3_4 : decode jdk_42_method_3_code 4 = .ok (.arraylength, 1) := by decide +kernel
theorem d3_5 : decode jdk_42_method_3_code 5 = .ok (.aconst_null, 1) := by decide +kernel
theorem d3_6 : decode jdk_42_method_3_code 6 = .ok (.invokespecial 27, 3) := by decide +kernel
theorem d3_9 : decode jdk_42_method_3_code 9 = .ok (.return_, 1) := by decide +kernel
theorem d1_0 : decode method_3_code 0 = .ok (.lload_n 0, 1) := by decide +kernel
theorem d1_1 : decode method_3_code 1 = .ok (.iload_n 2, 1) := by decide +kernel
theorem d1_2 : decode method_3_code 2 = .ok (.lushr, 1) := by decide +kernel
theorem d1_3 : decode method_3_code 3 = .ok (.ldc2_w 59, 3) := by decide +kernel
theorem d1_6 : decode method_3_code 6 = .ok (.land, 1) := by decide +kernel
theorem d1_7 : decode method_3_code 7 = .ok (.l2i, 1) := by decide +kernel
theorem d1_8 : decode method_3_code 8 = .ok (.i2c, 1) := by decide +kernel
theorem d1_9 : decode method_3_code 9 = .ok (.ireturn, 1) := by decide +kernel
theorem d17_0 : decode method_4_code 0 = .ok (.iload_n 1, 1) := by decide +kernel
theorem d17_1 : decode method_4_code 1 = .ok (.aload_n 0, 1) := by decide +kernel
theorem d17_2 : decode method_4_code 2 = .ok (.invokevirtual 22, 3) := by decide +kernel
theorem d17_5 : decode method_4_code 5 = .ok (.if_icmp .ge 11, 3) := by decide +kernel
theorem d17_16 : decode method_4_code 16 = .ok (.bipush 120, 2) := by decide +kernel
theorem d17_18 : decode method_4_code 18 = .ok (.ireturn, 1) := by decide +kernel
theorem d17_8 : decode method_4_code 8 = .ok (.aload_n 0, 1) := by decide +kernel
theorem d17_9 : decode method_4_code 9 = .ok (.iload_n 1, 1) := by decide +kernel
theorem d17_10 : decode method_4_code 10 = .ok (.invokevirtual 61, 3) := by decide +kernel
theorem d17_13 : decode method_4_code 13 = .ok (.goto 5, 3) := by decide +kernel
theorem d2_0 : decode method_5_code 0 = .ok (.iload_n 1, 1) := by decide +kernel
theorem d2_1 : decode method_5_code 1 = .ok (.tableswitch 451 0 9 #[55, 66, 83, 106, 135, 170, 211, 259, 315, 379], 55) := by decide +kernel
theorem d2_56 : decode method_5_code 56 = .ok (.new 23, 3) := by decide +kernel
theorem d2_59 : decode method_5_code 59 = .ok (.dup, 1) := by decide +kernel
theorem d2_60 : decode method_5_code 60 = .ok (.iconst 0, 1) := by decide +kernel
theorem d2_61 : decode method_5_code 61 = .ok (.newarray .char, 2) := by decide +kernel
theorem d2_63 : decode method_5_code 63 = .ok (.invokespecial 65, 3) := by decide +kernel
theorem d2_66 : decode method_5_code 66 = .ok (.areturn, 1) := by decide +kernel
theorem d2_67 : decode method_5_code 67 = .ok (.new 23, 3) := by decide +kernel
theorem d2_70 : decode method_5_code 70 = .ok (.dup, 1) := by decide +kernel
theorem d2_71 : decode method_5_code 71 = .ok (.iconst 1, 1) := by decide +kernel
theorem d2_72 : decode method_5_code 72 = .ok (.newarray .char, 2) := by decide +kernel
theorem d2_74 : decode method_5_code 74 = .ok (.dup, 1) := by decide +kernel
theorem d2_75 : decode method_5_code 75 = .ok (.iconst 0, 1) := by decide +kernel
theorem d2_76 : decode method_5_code 76 = .ok (.aload_n 0, 1) := by decide +kernel
theorem d2_77 : decode method_5_code 77 = .ok (.iconst 0, 1) := by decide +kernel
theorem d2_78 : decode method_5_code 78 = .ok (.caload, 1) := by decide +kernel
theorem d2_79 : decode method_5_code 79 = .ok (.castore, 1) := by decide +kernel
theorem d2_80 : decode method_5_code 80 = .ok (.invokespecial 65, 3) := by decide +kernel
theorem d2_83 : decode method_5_code 83 = .ok (.areturn, 1) := by decide +kernel
theorem d2_84 : decode method_5_code 84 = .ok (.new 23, 3) := by decide +kernel
theorem d2_87 : decode method_5_code 87 = .ok (.dup, 1) := by decide +kernel
theorem d2_88 : decode method_5_code 88 = .ok (.iconst 2, 1) := by decide +kernel
theorem d2_89 : decode method_5_code 89 = .ok (.newarray .char, 2) := by decide +kernel
theorem d2_91 : decode method_5_code 91 = .ok (.dup, 1) := by decide +kernel
theorem d2_92 : decode method_5_code 92 = .ok (.iconst 0, 1) := by decide +kernel
theorem d2_93 : decode method_5_code 93 = .ok (.aload_n 0, 1) := by decide +kernel
theorem d2_94 : decode method_5_code 94 = .ok (.iconst 0, 1) := by decide +kernel
theorem d2_95 : decode method_5_code 95 = .ok (.caload, 1) := by decide +kernel
theorem d2_96 : decode method_5_code 96 = .ok (.castore, 1) := by decide +kernel
theorem d2_97 : decode method_5_code 97 = .ok (.dup, 1) := by decide +kernel
theorem d2_98 : decode method_5_code 98 = .ok (.iconst 1, 1) := by decide +kernel
theorem d2_99 : decode method_5_code 99 = .ok (.aload_n 0, 1) := by decide +kernel
theorem d2_100 : decode method_5_code 100 = .ok (.iconst 1, 1) := by decide +kernel
theorem d2_101 : decode method_5_code 101 = .ok (.caload, 1) := by decide +kernel
theorem d2_102 : decode method_5_code 102 = .ok (.castore, 1) := by decide +kernel
theorem d2_103 : decode method_5_code 103 = .ok (.invokespecial 65, 3) := by decide +kernel
theorem d2_106 : decode method_5_code 106 = .ok (.areturn, 1) := by decide +kernel
theorem d2_107 : decode method_5_code 107 = .ok (.new 23, 3) := by decide +kernel
theorem d2_110 : decode method_5_code 110 = .ok (.dup, 1) := by decide +kernel
theorem d2_111 : decode method_5_code 111 = .ok (.iconst 3, 1) := by decide +kernel
theorem d2_112 : decode method_5_code 112 = .ok (.newarray .char, 2) := by decide +kernel
theorem d2_114 : decode method_5_code 114 = .ok (.dup, 1) := by decide +kernel
theorem d2_115 : decode method_5_code 115 = .ok (.iconst 0, 1) := by decide +kernel
theorem d2_116 : decode method_5_code 116 = .ok (.aload_n 0, 1) := by decide +kernel
theorem d2_117 : decode method_5_code 117 = .ok (.iconst 0, 1) := by decide +kernel
theorem d2_118 : decode method_5_code 118 = .ok (.caload, 1) := by decide +kernel
theorem d2_119 : decode method_5_code 119 = .ok (.castore, 1) := by decide +kernel
theorem d2_120 : decode method_5_code 120 = .ok (.dup, 1) := by decide +kernel
theorem d2_121 : decode method_5_code 121 = .ok (.iconst 1, 1) := by decide +kernel
theorem d2_122 : decode method_5_code 122 = .ok (.aload_n 0, 1) := by decide +kernel
theorem d2_123 : decode method_5_code 123 = .ok (.iconst 1, 1) := by decide +kernel
theorem d2_124 : decode method_5_code 124 = .ok (.caload, 1) := by decide +kernel
theorem d2_125 : decode method_5_code 125 = .ok (.castore, 1) := by decide +kernel
theorem d2_126 : decode method_5_code 126 = .ok (.dup, 1) := by decide +kernel
theorem d2_127 : decode method_5_code 127 = .ok (.iconst 2, 1) := by decide +kernel
theorem d2_128 : decode method_5_code 128 = .ok (.aload_n 0, 1) := by decide +kernel
theorem d2_129 : decode method_5_code 129 = .ok (.iconst 2, 1) := by decide +kernel
theorem d2_130 : decode method_5_code 130 = .ok (.caload, 1) := by decide +kernel
theorem d2_131 : decode method_5_code 131 = .ok (.castore, 1) := by decide +kernel
theorem d2_132 : decode method_5_code 132 = .ok (.invokespecial 65, 3) := by decide +kernel
theorem d2_135 : decode method_5_code 135 = .ok (.areturn, 1) := by decide +kernel
theorem d2_136 : decode method_5_code 136 = .ok (.new 23, 3) := by decide +kernel
theorem d2_139 : decode method_5_code 139 = .ok (.dup, 1) := by decide +kernel
theorem d2_140 : decode method_5_code 140 = .ok (.iconst 4, 1) := by decide +kernel
theorem d2_141 : decode method_5_code 141 = .ok (.newarray .char, 2) := by decide +kernel
theorem d2_143 : decode method_5_code 143 = .ok (.dup, 1) := by decide +kernel
theorem d2_144 : decode method_5_code 144 = .ok (.iconst 0, 1) := by decide +kernel
theorem d2_145 : decode method_5_code 145 = .ok (.aload_n 0, 1) := by decide +kernel
theorem d2_146 : decode method_5_code 146 = .ok (.iconst 0, 1) := by decide +kernel
theorem d2_147 : decode method_5_code 147 = .ok (.caload, 1) := by decide +kernel
theorem d2_148 : decode method_5_code 148 = .ok (.castore, 1) := by decide +kernel
theorem d2_149 : decode method_5_code 149 = .ok (.dup, 1) := by decide +kernel
theorem d2_150 : decode method_5_code 150 = .ok (.iconst 1, 1) := by decide +kernel
theorem d2_151 : decode method_5_code 151 = .ok (.aload_n 0, 1) := by decide +kernel
theorem d2_152 : decode method_5_code 152 = .ok (.iconst 1, 1) := by decide +kernel
theorem d2_153 : decode method_5_code 153 = .ok (.caload, 1) := by decide +kernel
theorem d2_154 : decode method_5_code 154 = .ok (.castore, 1) := by decide +kernel
theorem d2_155 : decode method_5_code 155 = .ok (.dup, 1) := by decide +kernel
theorem d2_156 : decode method_5_code 156 = .ok (.iconst 2, 1) := by decide +kernel
theorem d2_157 : decode method_5_code 157 = .ok (.aload_n 0, 1) := by decide +kernel
theorem d2_158 : decode method_5_code 158 = .ok (.iconst 2, 1) := by decide +kernel
theorem d2_159 : decode method_5_code 159 = .ok (.caload, 1) := by decide +kernel
theorem d2_160 : decode method_5_code 160 = .ok (.castore, 1) := by decide +kernel
theorem d2_161 : decode method_5_code 161 = .ok (.dup, 1) := by decide +kernel
theorem d2_162 : decode method_5_code 162 = .ok (.iconst 3, 1) := by decide +kernel
theorem d2_163 : decode method_5_code 163 = .ok (.aload_n 0, 1) := by decide +kernel
theorem d2_164 : decode method_5_code 164 = .ok (.iconst 3, 1) := by decide +kernel
theorem d2_165 : decode method_5_code 165 = .ok (.caload, 1) := by decide +kernel
theorem d2_166 : decode method_5_code 166 = .ok (.castore, 1) := by decide +kernel
theorem d2_167 : decode method_5_code 167 = .ok (.invokespecial 65, 3) := by decide +kernel
theorem d2_170 : decode method_5_code 170 = .ok (.areturn, 1) := by decide +kernel
theorem d2_171 : decode method_5_code 171 = .ok (.new 23, 3) := by decide +kernel
theorem d2_174 : decode method_5_code 174 = .ok (.dup, 1) := by decide +kernel
theorem d2_175 : decode method_5_code 175 = .ok (.iconst 5, 1) := by decide +kernel
theorem d2_176 : decode method_5_code 176 = .ok (.newarray .char, 2) := by decide +kernel
theorem d2_178 : decode method_5_code 178 = .ok (.dup, 1) := by decide +kernel
theorem d2_179 : decode method_5_code 179 = .ok (.iconst 0, 1) := by decide +kernel
theorem d2_180 : decode method_5_code 180 = .ok (.aload_n 0, 1) := by decide +kernel
theorem d2_181 : decode method_5_code 181 = .ok (.iconst 0, 1) := by decide +kernel
theorem d2_182 : decode method_5_code 182 = .ok (.caload, 1) := by decide +kernel
theorem d2_183 : decode method_5_code 183 = .ok (.castore, 1) := by decide +kernel
theorem d2_184 : decode method_5_code 184 = .ok (.dup, 1) := by decide +kernel
theorem d2_185 : decode method_5_code 185 = .ok (.iconst 1, 1) := by decide +kernel
theorem d2_186 : decode method_5_code 186 = .ok (.aload_n 0, 1) := by decide +kernel
theorem d2_187 : decode method_5_code 187 = .ok (.iconst 1, 1) := by decide +kernel
theorem d2_188 : decode method_5_code 188 = .ok (.caload, 1) := by decide +kernel
theorem d2_189 : decode method_5_code 189 = .ok (.castore, 1) := by decide +kernel
theorem d2_190 : decode method_5_code 190 = .ok (.dup, 1) := by decide +kernel
theorem d2_191 : decode method_5_code 191 = .ok (.iconst 2, 1) := by decide +kernel
theorem d2_192 : decode method_5_code 192 = .ok (.aload_n 0, 1) := by decide +kernel
theorem d2_193 : decode method_5_code 193 = .ok (.iconst 2, 1) := by decide +kernel
theorem d2_194 : decode method_5_code 194 = .ok (.caload, 1) := by decide +kernel
theorem d2_195 : decode method_5_code 195 = .ok (.castore, 1) := by decide +kernel
theorem d2_196 : decode method_5_code 196 = .ok (.dup, 1) := by decide +kernel
theorem d2_197 : decode method_5_code 197 = .ok (.iconst 3, 1) := by decide +kernel
theorem d2_198 : decode method_5_code 198 = .ok (.aload_n 0, 1) := by decide +kernel
theorem d2_199 : decode method_5_code 199 = .ok (.iconst 3, 1) := by decide +kernel
theorem d2_200 : decode method_5_code 200 = .ok (.caload, 1) := by decide +kernel
theorem d2_201 : decode method_5_code 201 = .ok (.castore, 1) := by decide +kernel
theorem d2_202 : decode method_5_code 202 = .ok (.dup, 1) := by decide +kernel
theorem d2_203 : decode method_5_code 203 = .ok (.iconst 4, 1) := by decide +kernel
theorem d2_204 : decode method_5_code 204 = .ok (.aload_n 0, 1) := by decide +kernel
theorem d2_205 : decode method_5_code 205 = .ok (.iconst 4, 1) := by decide +kernel
theorem d2_206 : decode method_5_code 206 = .ok (.caload, 1) := by decide +kernel
theorem d2_207 : decode method_5_code 207 = .ok (.castore, 1) := by decide +kernel
theorem d2_208 : decode method_5_code 208 = .ok (.invokespecial 65, 3) := by decide +kernel
theorem d2_211 : decode method_5_code 211 = .ok (.areturn, 1) := by decide +kernel
theorem d2_212 : decode method_5_code 212 = .ok (.new 23, 3) := by decide +kernel
theorem d2_215 : decode method_5_code 215 = .ok (.dup, 1) := by decide +kernel
theorem d2_216 : decode method_5_code 216 = .ok (.bipush 6, 2) := by decide +kernel
theorem d2_218 : decode method_5_code 218 = .ok (.newarray .char, 2) := by decide +kernel
theorem d2_220 : decode method_5_code 220 = .ok (.dup, 1) := by decide +kernel
theorem d2_221 : decode method_5_code 221 = .ok (.iconst 0, 1) := by decide +kernel
theorem d2_222 : decode method_5_code 222 = .ok (.aload_n 0, 1) := by decide +kernel
theorem d2_223 : decode method_5_code 223 = .ok (.iconst 0, 1) := by decide +kernel
theorem d2_224 : decode method_5_code 224 = .ok (.caload, 1) := by decide +kernel
theorem d2_225 : decode method_5_code 225 = .ok (.castore, 1) := by decide +kernel
theorem d2_226 : decode method_5_code 226 = .ok (.dup, 1) := by decide +kernel
theorem d2_227 : decode method_5_code 227 = .ok (.iconst 1, 1) := by decide +kernel
theorem d2_228 : decode method_5_code 228 = .ok (.aload_n 0, 1) := by decide +kernel
theorem d2_229 : decode method_5_code 229 = .ok (.iconst 1, 1) := by decide +kernel
theorem d2_230 : decode method_5_code 230 = .ok (.caload, 1) := by decide +kernel
theorem d2_231 : decode method_5_code 231 = .ok (.castore, 1) := by decide +kernel
theorem d2_232 : decode method_5_code 232 = .ok (.dup, 1) := by decide +kernel
theorem d2_233 : decode method_5_code 233 = .ok (.iconst 2, 1) := by decide +kernel
theorem d2_234 : decode method_5_code 234 = .ok (.aload_n 0, 1) := by decide +kernel
theorem d2_235 : decode method_5_code 235 = .ok (.iconst 2, 1) := by decide +kernel
theorem d2_236 : decode method_5_code 236 = .ok (.caload, 1) := by decide +kernel
theorem d2_237 : decode method_5_code 237 = .ok (.castore, 1) := by decide +kernel
theorem d2_238 : decode method_5_code 238 = .ok (.dup, 1) := by decide +kernel
theorem d2_239 : decode method_5_code 239 = .ok (.iconst 3, 1) := by decide +kernel
theorem d2_240 : decode method_5_code 240 = .ok (.aload_n 0, 1) := by decide +kernel
theorem d2_241 : decode method_5_code 241 = .ok (.iconst 3, 1) := by decide +kernel
theorem d2_242 : decode method_5_code 242 = .ok (.caload, 1) := by decide +kernel
theorem d2_243 : decode method_5_code 243 = .ok (.castore, 1) := by decide +kernel
theorem d2_244 : decode method_5_code 244 = .ok (.dup, 1) := by decide +kernel
theorem d2_245 : decode method_5_code 245 = .ok (.iconst 4, 1) := by decide +kernel
theorem d2_246 : decode method_5_code 246 = .ok (.aload_n 0, 1) := by decide +kernel
theorem d2_247 : decode method_5_code 247 = .ok (.iconst 4, 1) := by decide +kernel
theorem d2_248 : decode method_5_code 248 = .ok (.caload, 1) := by decide +kernel
theorem d2_249 : decode method_5_code 249 = .ok (.castore, 1) := by decide +kernel
theorem d2_250 : decode method_5_code 250 = .ok (.dup, 1) := by decide +kernel
theorem d2_251 : decode method_5_code 251 = .ok (.iconst 5, 1) := by decide +kernel
theorem d2_252 : decode method_5_code 252 = .ok (.aload_n 0, 1) := by decide +kernel
theorem d2_253 : decode method_5_code 253 = .ok (.iconst 5, 1) := by decide +kernel
theorem d2_254 : decode method_5_code 254 = .ok (.caload, 1) := by decide +kernel
theorem d2_255 : decode method_5_code 255 = .ok (.castore, 1) := by decide +kernel
theorem d2_256 : decode method_5_code 256 = .ok (.invokespecial 65, 3) := by decide +kernel
theorem d2_259 : decode method_5_code 259 = .ok (.areturn, 1) := by decide +kernel
theorem d2_260 : decode method_5_code 260 = .ok (.new 23, 3) := by decide +kernel
theorem d2_263 : decode method_5_code 263 = .ok (.dup, 1) := by decide +kernel
theorem d2_264 : decode method_5_code 264 = .ok (.bipush 7, 2) := by decide +kernel
theorem d2_266 : decode method_5_code 266 = .ok (.newarray .char, 2) := by decide +kernel
theorem d2_268 : decode method_5_code 268 = .ok (.dup, 1) := by decide +kernel
theorem d2_269 : decode method_5_code 269 = .ok (.iconst 0, 1) := by decide +kernel
theorem d2_270 : decode method_5_code 270 = .ok (.aload_n 0, 1) := by decide +kernel
theorem d2_271 : decode method_5_code 271 = .ok (.iconst 0, 1) := by decide +kernel
theorem d2_272 : decode method_5_code 272 = .ok (.caload, 1) := by decide +kernel
theorem d2_273 : decode method_5_code 273 = .ok (.castore, 1) := by decide +kernel
theorem d2_274 : decode method_5_code 274 = .ok (.dup, 1) := by decide +kernel
theorem d2_275 : decode method_5_code 275 = .ok (.iconst 1, 1) := by decide +kernel
theorem d2_276 : decode method_5_code 276 = .ok (.aload_n 0, 1) := by decide +kernel
theorem d2_277 : decode method_5_code 277 = .ok (.iconst 1, 1) := by decide +kernel
theorem d2_278 : decode method_5_code 278 = .ok (.caload, 1) := by decide +kernel
theorem d2_279 : decode method_5_code 279 = .ok (.castore, 1) := by decide +kernel
theorem d2_280 : decode method_5_code 280 = .ok (.dup, 1) := by decide +kernel
theorem d2_281 : decode method_5_code 281 = .ok (.iconst 2, 1) := by decide +kernel
theorem d2_282 : decode method_5_code 282 = .ok (.aload_n 0, 1) := by decide +kernel
theorem d2_283 : decode method_5_code 283 = .ok (.iconst 2, 1) := by decide +kernel
theorem d2_284 : decode method_5_code 284 = .ok (.caload, 1) := by decide +kernel
theorem d2_285 : decode method_5_code 285 = .ok (.castore, 1) := by decide +kernel
theorem d2_286 : decode method_5_code 286 = .ok (.dup, 1) := by decide +kernel
theorem d2_287 : decode method_5_code 287 = .ok (.iconst 3, 1) := by decide +kernel
theorem d2_288 : decode method_5_code 288 = .ok (.aload_n 0, 1) := by decide +kernel
theorem d2_289 : decode method_5_code 289 = .ok (.iconst 3, 1) := by decide +kernel
theorem d2_290 : decode method_5_code 290 = .ok (.caload, 1) := by decide +kernel
theorem d2_291 : decode method_5_code 291 = .ok (.castore, 1) := by decide +kernel
theorem d2_292 : decode method_5_code 292 = .ok (.dup, 1) := by decide +kernel
theorem d2_293 : decode method_5_code 293 = .ok (.iconst 4, 1) := by decide +kernel
theorem d2_294 : decode method_5_code 294 = .ok (.aload_n 0, 1) := by decide +kernel
theorem d2_295 : decode method_5_code 295 = .ok (.iconst 4, 1) := by decide +kernel
theorem d2_296 : decode method_5_code 296 = .ok (.caload, 1) := by decide +kernel
theorem d2_297 : decode method_5_code 297 = .ok (.castore, 1) := by decide +kernel
theorem d2_298 : decode method_5_code 298 = .ok (.dup, 1) := by decide +kernel
theorem d2_299 : decode method_5_code 299 = .ok (.iconst 5, 1) := by decide +kernel
theorem d2_300 : decode method_5_code 300 = .ok (.aload_n 0, 1) := by decide +kernel
theorem d2_301 : decode method_5_code 301 = .ok (.iconst 5, 1) := by decide +kernel
theorem d2_302 : decode method_5_code 302 = .ok (.caload, 1) := by decide +kernel
theorem d2_303 : decode method_5_code 303 = .ok (.castore, 1) := by decide +kernel
theorem d2_304 : decode method_5_code 304 = .ok (.dup, 1) := by decide +kernel
theorem d2_305 : decode method_5_code 305 = .ok (.bipush 6, 2) := by decide +kernel
theorem d2_307 : decode method_5_code 307 = .ok (.aload_n 0, 1) := by decide +kernel
theorem d2_308 : decode method_5_code 308 = .ok (.bipush 6, 2) := by decide +kernel
theorem d2_310 : decode method_5_code 310 = .ok (.caload, 1) := by decide +kernel
theorem d2_311 : decode method_5_code 311 = .ok (.castore, 1) := by decide +kernel
theorem d2_312 : decode method_5_code 312 = .ok (.invokespecial 65, 3) := by decide +kernel
theorem d2_315 : decode method_5_code 315 = .ok (.areturn, 1) := by decide +kernel
theorem d2_316 : decode method_5_code 316 = .ok (.new 23, 3) := by decide +kernel
theorem d2_319 : decode method_5_code 319 = .ok (.dup, 1) := by decide +kernel
theorem d2_320 : decode method_5_code 320 = .ok (.bipush 8, 2) := by decide +kernel
theorem d2_322 : decode method_5_code 322 = .ok (.newarray .char, 2) := by decide +kernel
theorem d2_324 : decode method_5_code 324 = .ok (.dup, 1) := by decide +kernel
theorem d2_325 : decode method_5_code 325 = .ok (.iconst 0, 1) := by decide +kernel
theorem d2_326 : decode method_5_code 326 = .ok (.aload_n 0, 1) := by decide +kernel
theorem d2_327 : decode method_5_code 327 = .ok (.iconst 0, 1) := by decide +kernel
theorem d2_328 : decode method_5_code 328 = .ok (.caload, 1) := by decide +kernel
theorem d2_329 : decode method_5_code 329 = .ok (.castore, 1) := by decide +kernel
theorem d2_330 : decode method_5_code 330 = .ok (.dup, 1) := by decide +kernel
theorem d2_331 : decode method_5_code 331 = .ok (.iconst 1, 1) := by decide +kernel
theorem d2_332 : decode method_5_code 332 = .ok (.aload_n 0, 1) := by decide +kernel
theorem d2_333 : decode method_5_code 333 = .ok (.iconst 1, 1) := by decide +kernel
theorem d2_334 : decode method_5_code 334 = .ok (.caload, 1) := by decide +kernel
theorem d2_335 : decode method_5_code 335 = .ok (.castore, 1) := by decide +kernel
theorem d2_336 : decode method_5_code 336 = .ok (.dup, 1) := by decide +kernel
theorem d2_337 : decode method_5_code 337 = .ok (.iconst 2, 1) := by decide +kernel
theorem d2_338 : decode method_5_code 338 = .ok (.aload_n 0, 1) := by decide +kernel
theorem d2_339 : decode method_5_code 339 = .ok (.iconst 2, 1) := by decide +kernel
theorem d2_340 : decode method_5_code 340 = .ok (.caload, 1) := by decide +kernel
theorem d2_341 : decode method_5_code 341 = .ok (.castore, 1) := by decide +kernel
theorem d2_342 : decode method_5_code 342 = .ok (.dup, 1) := by decide +kernel
theorem d2_343 : decode method_5_code 343 = .ok (.iconst 3, 1) := by decide +kernel
theorem d2_344 : decode method_5_code 344 = .ok (.aload_n 0, 1) := by decide +kernel
theorem d2_345 : decode method_5_code 345 = .ok (.iconst 3, 1) := by decide +kernel
theorem d2_346 : decode method_5_code 346 = .ok (.caload, 1) := by decide +kernel
theorem d2_347 : decode method_5_code 347 = .ok (.castore, 1) := by decide +kernel
theorem d2_348 : decode method_5_code 348 = .ok (.dup, 1) := by decide +kernel
theorem d2_349 : decode method_5_code 349 = .ok (.iconst 4, 1) := by decide +kernel
theorem d2_350 : decode method_5_code 350 = .ok (.aload_n 0, 1) := by decide +kernel
theorem d2_351 : decode method_5_code 351 = .ok (.iconst 4, 1) := by decide +kernel
theorem d2_352 : decode method_5_code 352 = .ok (.caload, 1) := by decide +kernel
theorem d2_353 : decode method_5_code 353 = .ok (.castore, 1) := by decide +kernel
theorem d2_354 : decode method_5_code 354 = .ok (.dup, 1) := by decide +kernel
theorem d2_355 : decode method_5_code 355 = .ok (.iconst 5, 1) := by decide +kernel
theorem d2_356 : decode method_5_code 356 = .ok (.aload_n 0, 1) := by decide +kernel
theorem d2_357 : decode method_5_code 357 = .ok (.iconst 5, 1) := by decide +kernel
theorem d2_358 : decode method_5_code 358 = .ok (.caload, 1) := by decide +kernel
theorem d2_359 : decode method_5_code 359 = .ok (.castore, 1) := by decide +kernel
theorem d2_360 : decode method_5_code 360 = .ok (.dup, 1) := by decide +kernel
theorem d2_361 : decode method_5_code 361 = .ok (.bipush 6, 2) := by decide +kernel
theorem d2_363 : decode method_5_code 363 = .ok (.aload_n 0, 1) := by decide +kernel
theorem d2_364 : decode method_5_code 364 = .ok (.bipush 6, 2) := by decide +kernel
theorem d2_366 : decode method_5_code 366 = .ok (.caload, 1) := by decide +kernel
theorem d2_367 : decode method_5_code 367 = .ok (.castore, 1) := by decide +kernel
theorem d2_368 : decode method_5_code 368 = .ok (.dup, 1) := by decide +kernel
theorem d2_369 : decode method_5_code 369 = .ok (.bipush 7, 2) := by decide +kernel
theorem d2_371 : decode method_5_code 371 = .ok (.aload_n 0, 1) := by decide +kernel
theorem d2_372 : decode method_5_code 372 = .ok (.bipush 7, 2) := by decide +kernel
theorem d2_374 : decode method_5_code 374 = .ok (.caload, 1) := by decide +kernel
theorem d2_375 : decode method_5_code 375 = .ok (.castore, 1) := by decide +kernel
theorem d2_376 : decode method_5_code 376 = .ok (.invokespecial 65, 3) := by decide +kernel
theorem d2_379 : decode method_5_code 379 = .ok (.areturn, 1) := by decide +kernel
theorem d2_380 : decode method_5_code 380 = .ok (.new 23, 3) := by decide +kernel
theorem d2_383 : decode method_5_code 383 = .ok (.dup, 1) := by decide +kernel
theorem d2_384 : decode method_5_code 384 = .ok (.bipush 9, 2) := by decide +kernel
theorem d2_386 : decode method_5_code 386 = .ok (.newarray .char, 2) := by decide +kernel
theorem d2_388 : decode method_5_code 388 = .ok (.dup, 1) := by decide +kernel
theorem d2_389 : decode method_5_code 389 = .ok (.iconst 0, 1) := by decide +kernel
theorem d2_390 : decode method_5_code 390 = .ok (.aload_n 0, 1) := by decide +kernel
theorem d2_391 : decode method_5_code 391 = .ok (.iconst 0, 1) := by decide +kernel
theorem d2_392 : decode method_5_code 392 = .ok (.caload, 1) := by decide +kernel
theorem d2_393 : decode method_5_code 393 = .ok (.castore, 1) := by decide +kernel
theorem d2_394 : decode method_5_code 394 = .ok (.dup, 1) := by decide +kernel
theorem d2_395 : decode method_5_code 395 = .ok (.iconst 1, 1) := by decide +kernel
theorem d2_396 : decode method_5_code 396 = .ok (.aload_n 0, 1) := by decide +kernel
theorem d2_397 : decode method_5_code 397 = .ok (.iconst 1, 1) := by decide +kernel
theorem d2_398 : decode method_5_code 398 = .ok (.caload, 1) := by decide +kernel
theorem d2_399 : decode method_5_code 399 = .ok (.castore, 1) := by decide +kernel
theorem d2_400 : decode method_5_code 400 = .ok (.dup, 1) := by decide +kernel
theorem d2_401 : decode method_5_code 401 = .ok (.iconst 2, 1) := by decide +kernel
theorem d2_402 : decode method_5_code 402 = .ok (.aload_n 0, 1) := by decide +kernel
theorem d2_403 : decode method_5_code 403 = .ok (.iconst 2, 1) := by decide +kernel
theorem d2_404 : decode method_5_code 404 = .ok (.caload, 1) := by decide +kernel
theorem d2_405 : decode method_5_code 405 = .ok (.castore, 1) := by decide +kernel
theorem d2_406 : decode method_5_code 406 = .ok (.dup, 1) := by decide +kernel
theorem d2_407 : decode method_5_code 407 = .ok (.iconst 3, 1) := by decide +kernel
theorem d2_408 : decode method_5_code 408 = .ok (.aload_n 0, 1) := by decide +kernel
theorem d2_409 : decode method_5_code 409 = .ok (.iconst 3, 1) := by decide +kernel
theorem d2_410 : decode method_5_code 410 = .ok (.caload, 1) := by decide +kernel
theorem d2_411 : decode method_5_code 411 = .ok (.castore, 1) := by decide +kernel
theorem d2_412 : decode method_5_code 412 = .ok (.dup, 1) := by decide +kernel
theorem d2_413 : decode method_5_code 413 = .ok (.iconst 4, 1) := by decide +kernel
theorem d2_414 : decode method_5_code 414 = .ok (.aload_n 0, 1) := by decide +kernel
theorem d2_415 : decode method_5_code 415 = .ok (.iconst 4, 1) := by decide +kernel
theorem d2_416 : decode method_5_code 416 = .ok (.caload, 1) := by decide +kernel
theorem d2_417 : decode method_5_code 417 = .ok (.castore, 1) := by decide +kernel
theorem d2_418 : decode method_5_code 418 = .ok (.dup, 1) := by decide +kernel
theorem d2_419 : decode method_5_code 419 = .ok (.iconst 5, 1) := by decide +kernel
theorem d2_420 : decode method_5_code 420 = .ok (.aload_n 0, 1) := by decide +kernel
theorem d2_421 : decode method_5_code 421 = .ok (.iconst 5, 1) := by decide +kernel
theorem d2_422 : decode method_5_code 422 = .ok (.caload, 1) := by decide +kernel
theorem d2_423 : decode method_5_code 423 = .ok (.castore, 1) := by decide +kernel
theorem d2_424 : decode method_5_code 424 = .ok (.dup, 1) := by decide +kernel
theorem d2_425 : decode method_5_code 425 = .ok (.bipush 6, 2) := by decide +kernel
theorem d2_427 : decode method_5_code 427 = .ok (.aload_n 0, 1) := by decide +kernel
theorem d2_428 : decode method_5_code 428 = .ok (.bipush 6, 2) := by decide +kernel
theorem d2_430 : decode method_5_code 430 = .ok (.caload, 1) := by decide +kernel
theorem d2_431 : decode method_5_code 431 = .ok (.castore, 1) := by decide +kernel
theorem d2_432 : decode method_5_code 432 = .ok (.dup, 1) := by decide +kernel
theorem d2_433 : decode method_5_code 433 = .ok (.bipush 7, 2) := by decide +kernel
theorem d2_435 : decode method_5_code 435 = .ok (.aload_n 0, 1) := by decide +kernel
theorem d2_436 : decode method_5_code 436 = .ok (.bipush 7, 2) := by decide +kernel
theorem d2_438 : decode method_5_code 438 = .ok (.caload, 1) := by decide +kernel
theorem d2_439 : decode method_5_code 439 = .ok (.castore, 1) := by decide +kernel
theorem d2_440 : decode method_5_code 440 = .ok (.dup, 1) := by decide +kernel
theorem d2_441 : decode method_5_code 441 = .ok (.bipush 8, 2) := by decide +kernel
theorem d2_443 : decode method_5_code 443 = .ok (.aload_n 0, 1) := by decide +kernel
theorem d2_444 : decode method_5_code 444 = .ok (.bipush 8, 2) := by decide +kernel
theorem d2_446 : decode method_5_code 446 = .ok (.caload, 1) := by decide +kernel
theorem d2_447 : decode method_5_code 447 = .ok (.castore, 1) := by decide +kernel
theorem d2_448 : decode method_5_code 448 = .ok (.invokespecial 65, 3) := by decide +kernel
theorem d2_451 : decode method_5_code 451 = .ok (.areturn, 1) := by decide +kernel
theorem d2_452 : decode method_5_code 452 = .ok (.new 23, 3) := by decide +kernel
theorem d2_455 : decode method_5_code 455 = .ok (.dup, 1) := by decide +kernel
theorem d2_456 : decode method_5_code 456 = .ok (.bipush 10, 2) := by decide +kernel
theorem d2_458 : decode method_5_code 458 = .ok (.newarray .char, 2) := by decide +kernel
theorem d2_460 : decode method_5_code 460 = .ok (.dup, 1) := by decide +kernel
theorem d2_461 : decode method_5_code 461 = .ok (.iconst 0, 1) := by decide +kernel
theorem d2_462 : decode method_5_code 462 = .ok (.aload_n 0, 1) := by decide +kernel
theorem d2_463 : decode method_5_code 463 = .ok (.iconst 0, 1) := by decide +kernel
theorem d2_464 : decode method_5_code 464 = .ok (.caload, 1) := by decide +kernel
theorem d2_465 : decode method_5_code 465 = .ok (.castore, 1) := by decide +kernel
theorem d2_466 : decode method_5_code 466 = .ok (.dup, 1) := by decide +kernel
theorem d2_467 : decode method_5_code 467 = .ok (.iconst 1, 1) := by decide +kernel
theorem d2_468 : decode method_5_code 468 = .ok (.aload_n 0, 1) := by decide +kernel
theorem d2_469 : decode method_5_code 469 = .ok (.iconst 1, 1) := by decide +kernel
theorem d2_470 : decode method_5_code 470 = .ok (.caload, 1) := by decide +kernel
theorem d2_471 : decode method_5_code 471 = .ok (.castore, 1) := by decide +kernel
theorem d2_472 : decode method_5_code 472 = .ok (.dup, 1) := by decide +kernel
theorem d2_473 : decode method_5_code 473 = .ok (.iconst 2, 1) := by decide +kernel
theorem d2_474 : decode method_5_code 474 = .ok (.aload_n 0, 1) := by decide +kernel
theorem d2_475 : decode method_5_code 475 = .ok (.iconst 2, 1) := by decide +kernel
theorem d2_476 : decode method_5_code 476 = .ok (.caload, 1) := by decide +kernel
theorem d2_477 : decode method_5_code 477 = .ok (.castore, 1) := by decide +kernel
theorem d2_478 : decode method_5_code 478 = .ok (.dup, 1) := by decide +kernel
theorem d2_479 : decode method_5_code 479 = .ok (.iconst 3, 1) := by decide +kernel
theorem d2_480 : decode method_5_code 480 = .ok (.aload_n 0, 1) := by decide +kernel
theorem d2_481 : decode method_5_code 481 = .ok (.iconst 3, 1) := by decide +kernel
theorem d2_482 : decode method_5_code 482 = .ok (.caload, 1) := by decide +kernel
theorem d2_483 : decode method_5_code 483 = .ok (.castore, 1) := by decide +kernel
theorem d2_484 : decode method_5_code 484 = .ok (.dup, 1) := by decide +kernel
theorem d2_485 : decode method_5_code 485 = .ok (.iconst 4, 1) := by decide +kernel
theorem d2_486 : decode method_5_code 486 = .ok (.aload_n 0, 1) := by decide +kernel
theorem d2_487 : decode method_5_code 487 = .ok (.iconst 4, 1) := by decide +kernel
theorem d2_488 : decode method_5_code 488 = .ok (.caload, 1) := by decide +kernel
theorem d2_489 : decode method_5_code 489 = .ok (.castore, 1) := by decide +kernel
theorem d2_490 : decode method_5_code 490 = .ok (.dup, 1) := by decide +kernel
theorem d2_491 : decode method_5_code 491 = .ok (.iconst 5, 1) := by decide +kernel
theorem d2_492 : decode method_5_code 492 = .ok (.aload_n 0, 1) := by decide +kernel
theorem d2_493 : decode method_5_code 493 = .ok (.iconst 5, 1) := by decide +kernel
theorem d2_494 : decode method_5_code 494 = .ok (.caload, 1) := by decide +kernel
theorem d2_495 : decode method_5_code 495 = .ok (.castore, 1) := by decide +kernel
theorem d2_496 : decode method_5_code 496 = .ok (.dup, 1) := by decide +kernel
theorem d2_497 : decode method_5_code 497 = .ok (.bipush 6, 2) := by decide +kernel
theorem d2_499 : decode method_5_code 499 = .ok (.aload_n 0, 1) := by decide +kernel
theorem d2_500 : decode method_5_code 500 = .ok (.bipush 6, 2) := by decide +kernel
theorem d2_502 : decode method_5_code 502 = .ok (.caload, 1) := by decide +kernel
theorem d2_503 : decode method_5_code 503 = .ok (.castore, 1) := by decide +kernel
theorem d2_504 : decode method_5_code 504 = .ok (.dup, 1) := by decide +kernel
theorem d2_505 : decode method_5_code 505 = .ok (.bipush 7, 2) := by decide +kernel
theorem d2_507 : decode method_5_code 507 = .ok (.aload_n 0, 1) := by decide +kernel
theorem d2_508 : decode method_5_code 508 = .ok (.bipush 7, 2) := by decide +kernel
theorem d2_510 : decode method_5_code 510 = .ok (.caload, 1) := by decide +kernel
theorem d2_511 : decode method_5_code 511 = .ok (.castore, 1) := by decide +kernel
theorem d2_512 : decode method_5_code 512 = .ok (.dup, 1) := by decide +kernel
theorem d2_513 : decode method_5_code 513 = .ok (.bipush 8, 2) := by decide +kernel
theorem d2_515 : decode method_5_code 515 = .ok (.aload_n 0, 1) := by decide +kernel
theorem d2_516 : decode method_5_code 516 = .ok (.bipush 8, 2) := by decide +kernel
theorem d2_518 : decode method_5_code 518 = .ok (.caload, 1) := by decide +kernel
theorem d2_519 : decode method_5_code 519 = .ok (.castore, 1) := by decide +kernel
theorem d2_520 : decode method_5_code 520 = .ok (.dup, 1) := by decide +kernel
theorem d2_521 : decode method_5_code 521 = .ok (.bipush 9, 2) := by decide +kernel
theorem d2_523 : decode method_5_code 523 = .ok (.aload_n 0, 1) := by decide +kernel
theorem d2_524 : decode method_5_code 524 = .ok (.bipush 9, 2) := by decide +kernel
theorem d2_526 : decode method_5_code 526 = .ok (.caload, 1) := by decide +kernel
theorem d2_527 : decode method_5_code 527 = .ok (.castore, 1) := by decide +kernel
theorem d2_528 : decode method_5_code 528 = .ok (.invokespecial 65, 3) := by decide +kernel
theorem d2_531 : decode method_5_code 531 = .ok (.areturn, 1) := by decide +kernel
theorem d12_0 : decode prog_5_method_1_code 0 = .ok (.getstatic 10, 3) := by decide +kernel
theorem d12_3 : decode prog_5_method_1_code 3 = .ok (.invokevirtual 14, 3) := by decide +kernel
theorem d12_6 : decode prog_5_method_1_code 6 = .ok (.checkcast 15, 3) := by decide +kernel
theorem d12_9 : decode prog_5_method_1_code 9 = .ok (.areturn, 1) := by decide +kernel
theorem d9_0 : decode jdk_42_method_66_code 0 = .ok (.aload_n 0, 1) := by decide +kernel
theorem d9_1 : decode jdk_42_method_66_code 1 = .ok (.aload_n 1, 1) := by decide +kernel
theorem d9_2 : decode jdk_42_method_66_code 2 = .ok (.if_acmp .ne 5, 3) := by decide +kernel
theorem d9_7 : decode jdk_42_method_66_code 7 = .ok (.aload_n 1, 1) := by decide +kernel
theorem d9_8 : decode jdk_42_method_66_code 8 = .ok (.instanceof 10, 3) := by decide +kernel
theorem d9_11 : decode jdk_42_method_66_code 11 = .ok (.ifCond .eq 43, 3) := by decide +kernel
theorem d9_54 : decode jdk_42_method_66_code 54 = .ok (.iconst 0, 1) := by decide +kernel
theorem d9_55 : decode jdk_42_method_66_code 55 = .ok (.ireturn, 1) := by decide +kernel
theorem d11_0 : decode prog_5_method_5_code 0 = .ok (.invokestatic 33, 3) := by decide +kernel
theorem d11_3 : decode prog_5_method_5_code 3 = .ok (.astore_n 1, 1) := by decide +kernel
theorem d11_4 : decode prog_5_method_5_code 4 = .ok (.aload_n 1, 1) := by decide +kernel
theorem d11_5 : decode prog_5_method_5_code 5 = .ok (.arraylength, 1) := by decide +kernel
theorem d11_6 : decode prog_5_method_5_code 6 = .ok (.istore_n 2, 1) := by decide +kernel
theorem d11_7 : decode prog_5_method_5_code 7 = .ok (.iconst 0, 1) := by decide +kernel
theorem d11_8 : decode prog_5_method_5_code 8 = .ok (.istore_n 3, 1) := by decide +kernel
theorem d11_9 : decode prog_5_method_5_code 9 = .ok (.iload_n 3, 1) := by decide +kernel
theorem d11_10 : decode prog_5_method_5_code 10 = .ok (.iload_n 2, 1) := by decide +kernel
theorem d11_11 : decode prog_5_method_5_code 11 = .ok (.if_icmp .ge 32, 3) := by decide +kernel
theorem d11_14 : decode prog_5_method_5_code 14 = .ok (.aload_n 1, 1) := by decide +kernel
theorem d11_15 : decode prog_5_method_5_code 15 = .ok (.iload_n 3, 1) := by decide +kernel
theorem d11_16 : decode prog_5_method_5_code 16 = .ok (.aaload, 1) := by decide +kernel
theorem d11_17 : decode prog_5_method_5_code 17 = .ok (.astore 4, 2) := by decide +kernel
theorem d11_19 : decode prog_5_method_5_code 19 = .ok (.aload 4, 2) := by decide +kernel
theorem d11_21 : decode prog_5_method_5_code 21 = .ok (.getfield 29, 3) := by decide +kernel
theorem d11_24 : decode prog_5_method_5_code 24 = .ok (.aload_n 0, 1) := by decide +kernel
theorem d11_25 : decode prog_5_method_5_code 25 = .ok (.invokevirtual 37, 3) := by decide +kernel
theorem d11_28 : decode prog_5_method_5_code 28 = .ok (.ifCond .eq 9, 3) := by decide +kernel
theorem d11_31 : decode prog_5_method_5_code 31 = .ok (.aload 4, 2) := by decide +kernel
theorem d11_33 : decode prog_5_method_5_code 33 = .ok (.invokestatic 43, 3) := by decide +kernel
theorem d11_36 : decode prog_5_method_5_code 36 = .ok (.areturn, 1) := by decide +kernel
theorem d11_37 : decode prog_5_method_5_code 37 = .ok (.iinc 3 1, 3) := by decide +kernel
theorem d11_40 : decode prog_5_method_5_code 40 = .ok (.goto (-31), 3) := by decide +kernel
theorem d11_43 : decode prog_5_method_5_code 43 = .ok (.invokestatic 49, 3) := by decide +kernel
theorem d11_46 : decode prog_5_method_5_code 46 = .ok (.areturn, 1) := by decide +kernel
theorem pd0 : parseMethodDescriptor "(Ljava/lang/Object;)Ljava/lang/Object;" = some ⟨[(.object "java/lang/Object")], some (.object "java/lang/Object")⟩ := by decide +kernel
theorem pd1 : parseMethodDescriptor "(Ljava/lang/Object;)V" = some ⟨[(.object "java/lang/Object")], none⟩ := by decide +kernel
theorem pd2 : parseMethodDescriptor "([CIILjava/lang/Void;)V" = some ⟨[(.array .char), .int, .int, (.object "java/lang/Void")], none⟩ := by decide +kernel
theorem pd3 : parseMethodDescriptor "([C)V" = some ⟨[(.array .char)], none⟩ := by decide +kernel
theorem pd4 : parseMethodDescriptor "()[Lcom/example/tasklane/tasklane/engine/InstanceState;" = some ⟨[], some (.array (.object "com/example/tasklane/tasklane/engine/InstanceState"))⟩ := by decide +kernel
theorem pd5 : parseMethodDescriptor "(Ljava/lang/Object;)Ljava/util/Optional;" = some ⟨[(.object "java/lang/Object")], some (.object "java/util/Optional")⟩ := by decide +kernel
theorem pd6 : parseMethodDescriptor "()Ljava/util/Optional;" = some ⟨[], some (.object "java/util/Optional")⟩ := by decide +kernel
theorem pd7 : parseMethodDescriptor "(Ljava/lang/Object;)Z" = some ⟨[(.object "java/lang/Object")], some .boolean⟩ := by decide +kernel
theorem pd8 : parseMethodDescriptor "(Ljava/lang/String;I)C" = some ⟨[(.object "java/lang/String"), .int], some .char⟩ := by decide +kernel
theorem pd9 : parseMethodDescriptor "([CI)Ljava/lang/String;" = some ⟨[(.array .char), .int], some (.object "java/lang/String")⟩ := by decide +kernel
theorem pd10 : parseMethodDescriptor "(Ljava/lang/String;)Ljava/util/Optional;" = some ⟨[(.object "java/lang/String")], some (.object "java/util/Optional")⟩ := by decide +kernel
theorem pd11 : parseMethodDescriptor "()Z" = some ⟨[], some .boolean⟩ := by decide +kernel
theorem pd12 : parseMethodDescriptor "()Ljava/lang/Object;" = some ⟨[], some (.object "java/lang/Object")⟩ := by decide +kernel
theorem pd13 : parseMethodDescriptor "(JI)C" = some ⟨[.long, .int], some .char⟩ := by decide +kernel
theorem pn0 : plainFor (⟨"java/util/Objects", "requireNonNull", "(Ljava/lang/Object;)Ljava/lang/Object;"⟩ : MethodName) = true := plainFor_of_name (by first | (simp [plainName, overriddenIn]; done) | decide +kernel)
theorem pn1 : plainFor (⟨"java/util/Optional", "<init>", "(Ljava/lang/Object;)V"⟩ : MethodName) = true := plainFor_of_name (by first | (simp [plainName, overriddenIn]; done) | decide +kernel)
theorem pn2 : plainFor (⟨"java/util/Optional", "of", "(Ljava/lang/Object;)Ljava/util/Optional;"⟩ : MethodName) = true := plainFor_of_name (by first | (simp [plainName, overriddenIn]; done) | decide +kernel)
theorem pn3 : plainFor (⟨"java/util/Optional", "empty", "()Ljava/util/Optional;"⟩ : MethodName) = true := plainFor_of_name (by first | (simp [plainName, overriddenIn]; done) | decide +kernel)
theorem pn4 : plainFor (⟨"java/util/Optional", "isPresent", "()Z"⟩ : MethodName) = true := plainFor_of_name (by first | (simp [plainName, overriddenIn]; done) | decide +kernel)
theorem pn5 : plainFor (⟨"java/util/Optional", "get", "()Ljava/lang/Object;"⟩ : MethodName) = true := plainFor_of_name (by first | (simp [plainName, overriddenIn]; done) | decide +kernel)
theorem pn6 : plainFor (⟨"java/lang/String", "<init>", "([CIILjava/lang/Void;)V"⟩ : MethodName) = true := plainFor_of_name (by first | (simp [plainName, overriddenIn]; done) | decide +kernel)
theorem pn7 : plainFor (⟨"java/lang/String", "<init>", "([C)V"⟩ : MethodName) = true := plainFor_of_name (by first | (simp [plainName, overriddenIn]; done) | decide +kernel)
theorem pn8 : plainFor (⟨"com/example/tasklane/tasklane/engine/InstanceStateFromIdPinLaw", "b", "(JI)C"⟩ : MethodName) = true := plainFor_of_name (by first | (simp [plainName, overriddenIn]; done) | decide +kernel)
theorem pn9 : plainFor (⟨"com/example/tasklane/tasklane/engine/InstanceStateFromIdPinLaw", "at", "(Ljava/lang/String;I)C"⟩ : MethodName) = true := plainFor_of_name (by first | (simp [plainName, overriddenIn]; done) | decide +kernel)
theorem pn10 : plainFor (⟨"com/example/tasklane/tasklane/engine/InstanceStateFromIdPinLaw", "prefix", "([CI)Ljava/lang/String;"⟩ : MethodName) = true := plainFor_of_name (by first | (simp [plainName, overriddenIn]; done) | decide +kernel)
theorem pn11 : plainFor (⟨"com/example/tasklane/tasklane/engine/InstanceState", "values", "()[Lcom/example/tasklane/tasklane/engine/InstanceState;"⟩ : MethodName) = true := plainFor_of_name (by first | (simp [plainName, overriddenIn]; done) | decide +kernel)
theorem pn12 : plainFor (⟨"java/lang/String", "equals", "(Ljava/lang/Object;)Z"⟩ : MethodName) = true := plainFor_of_name (by first | (simp [plainName, overriddenIn]; done) | decide +kernel)
theorem pn13 : plainFor (⟨"com/example/tasklane/tasklane/engine/InstanceState", "fromId", "(Ljava/lang/String;)Ljava/util/Optional;"⟩ : MethodName) = true := plainFor_of_name (by first | (simp [plainName, overriddenIn]; done) | decide +kernel)
theorem pn14 : plainFor (⟨"com/example/tasklane/tasklane/engine/InstanceStateFromIdPinLaw", "law", "(IIJJII)Z"⟩ : MethodName) = true := plainFor_of_name (by first | (simp [plainName, overriddenIn]; done) | decide +kernel)
theorem own_atoms0 {Z : State} {a0 : Array Value} (hw : ∀ d ∈ tables_1, d.before a0 Z = true) : ∀ a ∈ Bundle.stringAtoms, a.before a0 Z = true := fun d hd => hw d ((by decide +kernel : ∀ d ∈ Bundle.stringAtoms, d ∈ tables_1) d hd)
theorem own_slots {Z : State} {a0 : Array Value} (hw : ∀ d ∈ tables_1, d.before a0 Z = true) : Jvm.RoadKit.slotOf Z "java/lang/String" "coder" "B" ≠ Jvm.RoadKit.slotOf Z "java/lang/String" "value" "[B" := slot_ne (C := "java/lang/String") (a0 := a0) (Or.inr (hw _ (List.mem_of_getElem? (i := 36) rfl))) (Or.inr (hw _ (List.mem_of_getElem? (i := 38) rfl))) (by decide) (t := .byte) (t' := .array .byte) (by decide) (by decide)
theorem hasL_of {c : Cell} : ∀ (vs : List Value) (i : Nat), (∀ j (hj : j < vs.length), c.slots[i + j]? = some vs[j]) → HasL c i vs
  | [], _, _ => trivial
  | v :: r, i, H => ⟨H 0 (Nat.zero_lt_succ _), hasL_of r (i + 1) fun j hj => by have := H (j + 1) (Nat.succ_lt_succ hj); rw [Nat.add_right_comm]; exact this⟩
theorem arv_start {s : State} {args : Array Value} (hf : Fit s) {t : Term} {a : Addr} {ty : FieldType} {z : Int32} {vs : List Value} {dv : Value} (ev : t.eval args s none [] s = some (.ref a)) (hx : (Cond.arrayOf t ty).value args s none s [] = some true) (hl : (Term.length t).eval args s none [] s = some (.int z)) (hz : ¬ z < 0) (hn : z.toNatClampNeg = vs.length) (he : ∀ i (h : i < vs.length), (Term.elem t (.int (Int32.ofNat i))).eval args s none [] s = some vs[i]) : ∃ k, Arv s s.heap a k ty z vs dv := by
  obtain ⟨cl, A⟩ := Arr.start ev hx
  obtain ⟨a', cell, ha', hat, hv⟩ := Term.length_spec hl
  cases ev.symm.trans ha'
  have e1 := (State.arrayAt?_spec hat).1
  cases A.1.symm.trans e1
  have h31 := SBG.length_lt ev hat hl
  have ez : cl.slots.size.toInt32 = z := by cases hv; rfl
  have S : cl.slots.size = vs.length := by
    rw [← hn, ← ez]
    show _ = (Int32.ofNat cl.slots.size).toInt.toNat
    rw [Int32.toInt_ofNat_small h31]; simp
  exact ⟨_, Arv.start hf A h31 ez hz hn (hasL_of vs 0 fun j hj => by
    have e := he j hj
    rw [SBG.elem_at (ix := .int (Int32.ofNat j)) ev hat (by omega) h31 rfl] at e
    rw [Nat.zero_add]; exact e)⟩
theorem str_start {s : State} {args : Array Value} (hf : Fit s) {t : Term} {a : Addr} {cs : List Int32} (ev : t.eval args s none [] s = some (.ref a)) (hx : (Cond.exactly t "java/lang/String").value args s none s [] = some true) (hc : (Cond.eq (.field t "java/lang/String" "coder" "B") (.int 0)).value args s none s [] = some true) (ha : (Cond.arrayOf (.field t "java/lang/String" "value" "[B") .byte).value args s none s [] = some true)
    (hl : (Cond.eq (.length (.field t "java/lang/String" "value" "[B")) (.int (Int32.ofNat cs.length))).value args s none s [] = some true) (he : ∀ i (h : i < cs.length), (Cond.eq (.elem (.field t "java/lang/String" "value" "[B") (.int (Int32.ofNat i))) (.int cs[i])).value args s none s [] = some true) (hb : ∀ c ∈ cs, ¬ c < 0 ∧ ¬ (255 : Int32) < c ∧ c.toInt8.toInt32 = c) (hn : cs.length ≤ 4000) : Str s s.heap a cs := by
  obtain ⟨b, eb⟩ := arr_v ha
  have hlen := Cond.eq_int (Cond.before_iff.mpr hl) rfl
  have hcod := Cond.eq_int (Cond.before_iff.mpr hc) rfl
  have h31 : cs.length < 2 ^ 31 := by omega
  have hnn : ¬ Int32.ofNat cs.length < 0 := by
    rw [Int32.lt_iff_toInt_lt, Int32.toInt_ofNat_small h31]; have : (0 : Int32).toInt = 0 := rfl; omega
  obtain ⟨k, A⟩ := arv_start (vs := cs.map Value.int) (dv := .int 0) hf eb ha hlen hnn (by
    rw [List.length_map]
    show (Int32.ofNat cs.length).toInt.toNat = _
    rw [Int32.toInt_ofNat_small h31]; simp) fun i h => by
      have h' : i < cs.length := by simpa using h
      rw [List.getElem_map]
      exact Cond.eq_int (Cond.before_iff.mpr (he i h')) rfl
  refine ⟨b, k, 0, _, _, Exa.start ev hx, Fld.start ((fld_at ev).symm.trans eb), Fld.start ((fld_at ev).symm.trans hcod), A, Or.inl ⟨rfl, rfl, ?_, fun c hc => (hb c hc).2.1⟩, up16 fun c hc => ⟨(hb c hc).1, (hb c hc).2.1⟩, hn⟩
  exact List.map_congr_left fun c hc => congrArg Value.int (hb c hc).2.2.symm
theorem own_words {Z : State} {a0 : Array Value} (hw : ∀ d ∈ tables_1, d.before a0 Z = true) : ∀ d ∈ StrChars.Road.words, d.before a0 Z = true := fun d hd => hw d ((by decide +kernel : ∀ d ∈ StrChars.Road.words, d ∈ tables_1) d hd)
theorem own_wordsEq {Z : State} {a0 : Array Value} (hw : ∀ d ∈ tables_1, d.before a0 Z = true) : ∀ d ∈ StrChars.Road.wordsEq, d.before a0 Z = true := fun d hd => hw d ((by decide +kernel : ∀ d ∈ StrChars.Road.wordsEq, d ∈ tables_1) d hd)
theorem own_wordsLen {Z : State} {a0 : Array Value} (hw : ∀ d ∈ tables_1, d.before a0 Z = true) : ∀ d ∈ StrChars.Road.wordsLen, d.before a0 Z = true := fun d hd => hw d ((by decide +kernel : ∀ d ∈ StrChars.Road.wordsLen, d ∈ tables_1) d hd)
theorem own_wordsChN {Z : State} {a0 : Array Value} (hw : ∀ d ∈ tables_1, d.before a0 Z = true) : ∀ d ∈ StrChars.Road.wordsChN, d.before a0 Z = true := fun d hd => hw d ((by decide +kernel : ∀ d ∈ StrChars.Road.wordsChN, d ∈ tables_1) d hd)
theorem own_fin (x m : Int32) (n : Nat) (hm : m.toBitVec.toNat < n) : ∃ k : Fin n, x &&& m = Int32.ofNat k.val := by
  have h : (x &&& m).toBitVec.toNat < n := by
    simp only [Int32.toBitVec_and, BitVec.toNat_and]
    exact Nat.lt_of_le_of_lt Nat.and_le_right hm
  refine ⟨⟨_, h⟩, ?_⟩
  apply Int32.toBitVec_inj.mp
  show _ = BitVec.ofNat 32 _
  rw [BitVec.ofNat_toNat]; simp
theorem own_c8 (x : Int32) : ¬ ((x &&& (255 : Int32)).toUInt32.toUInt16.toUInt32.toInt32) < 0 ∧ ¬ (255 : Int32) < ((x &&& (255 : Int32)).toUInt32.toUInt16.toUInt32.toInt32) := by
  have t : ∀ k : Fin 256, ¬ ((Int32.ofNat k.val).toUInt32.toUInt16.toUInt32.toInt32) < 0 ∧ ¬ (255 : Int32) < ((Int32.ofNat k.val).toUInt32.toUInt16.toUInt32.toInt32) := by decide +kernel
  obtain ⟨k, e⟩ := own_fin x 255 256 (by decide)
  rw [e]; exact t k
theorem own_nc {c : Int32} (h : ¬ c < 0 ∧ ¬ (255 : Int32) < c) : nar .char c = c := by
  apply Int32.toInt_inj.mp
  have e := c_i2c c
  simp only [Int32.lt_iff_toInt_lt] at h
  have z0 : (0 : Int32).toInt = 0 := rfl
  have z1 : (255 : Int32).toInt = 255 := rfl
  show (c.toUInt32.toUInt16.toUInt32.toInt32).toInt = c.toInt
  omega
theorem own_ix {i n : Nat} (h : i < n) (hn : n ≤ 100) : (¬ Int32.ofNat i < 0 ∧ Int32.ofNat i < Int32.ofNat n) ∧ (Int32.ofNat i).toNatClampNeg = i := by
  have e1 := Int32.toInt_ofNat_small (n := i) (by omega)
  have e2 := Int32.toInt_ofNat_small (n := n) (by omega)
  have z0 : (0 : Int32).toInt = 0 := rfl
  refine ⟨⟨?_, ?_⟩, ?_⟩
  · rw [Int32.lt_iff_toInt_lt]; omega
  · rw [Int32.lt_iff_toInt_lt]; omega
  · show (Int32.ofNat i).toInt.toNat = i
    omega
theorem own_rs {L : List Int32} {i : Nat} {x : Int32} (hL : ∀ c ∈ L, ¬ c < 0 ∧ ¬ (255 : Int32) < c) (hx : ¬ x < 0 ∧ ¬ (255 : Int32) < x) : ∀ c ∈ L.set i x, ¬ c < 0 ∧ ¬ (255 : Int32) < c := fun c hc => by
  rcases List.mem_or_eq_of_mem_set hc with q | rfl
  · exact hL c q
  · exact hx
theorem own_mod (x : Int32) (n : Nat) (h0 : 0 < n) (h1 : n ≤ 100) : ∃ i, i < n ∧ (x &&& (2147483647 : Int32)) % Int32.ofNat n = Int32.ofNat i := by
  have e1 := Int32.toInt_ofNat_small (n := n) (by omega)
  have hx : 0 ≤ (x &&& (2147483647 : Int32)).toInt := by
    have q : (x &&& (2147483647 : Int32)).toBitVec.toNat < 2 ^ 31 := by
      simp only [Int32.toBitVec_and, BitVec.toNat_and]
      exact Nat.lt_of_le_of_lt Nat.and_le_right (by decide)
    show 0 ≤ (x &&& (2147483647 : Int32)).toBitVec.toInt
    rw [BitVec.toInt_eq_toNat_of_lt (by omega)]; omega
  refine ⟨((x &&& (2147483647 : Int32)).toInt % (n : Int)).toNat, ?_, ?_⟩
  · have := Int.emod_lt_of_pos (x &&& (2147483647 : Int32)).toInt (show (0 : Int) < n by omega)
    have := Int.emod_nonneg (x &&& (2147483647 : Int32)).toInt (show (n : Int) ≠ 0 by omega)
    omega
  · apply Int32.toInt_inj.mp
    have b1 := Int.emod_lt_of_pos (x &&& (2147483647 : Int32)).toInt (show (0 : Int) < n by omega)
    have b2 := Int.emod_nonneg (x &&& (2147483647 : Int32)).toInt (show (n : Int) ≠ 0 by omega)
    rw [Int32.toInt_mod, e1, Int32.toInt_ofNat_small (by omega), Int.tmod_eq_emod_of_nonneg hx]
    omega

def own_b (x : Int64) (n : Int32) : Int32 := (((x.toUInt64 >>> (n &&& 0x3f).toInt64.toUInt64).toInt64 &&& (255 : Int64)).toInt32).toUInt32.toUInt16.toUInt32.toInt32
def own_at (cs : List Int32) (i : Nat) : Int32 := if i < cs.length then cs.getD i 0 else 120
def own_find (ki_0 ki_1 : Addr) (cs : List Int32) : Value := if [(97 : Int32), (99 : Int32), (116 : Int32), (105 : Int32), (118 : Int32), (101 : Int32)] = cs then .ref ki_0 else if [(99 : Int32), (111 : Int32), (109 : Int32), (112 : Int32), (108 : Int32), (101 : Int32), (116 : Int32), (101 : Int32), (100 : Int32)] = cs then .ref ki_1 else .null
theorem own_t0 : chs "active" = [(97 : Int32), (99 : Int32), (116 : Int32), (105 : Int32), (118 : Int32), (101 : Int32)] := by decide +kernel
theorem own_t1 : chs "completed" = [(99 : Int32), (111 : Int32), (109 : Int32), (112 : Int32), (108 : Int32), (101 : Int32), (116 : Int32), (101 : Int32), (100 : Int32)] := by decide +kernel
theorem own_br (x : Int64) (n : Int32) : ¬ own_b x n < 0 ∧ ¬ (255 : Int32) < own_b x n := by
  have t : ∀ k : Fin 256, ¬ ((Int64.ofNat k.val).toInt32.toUInt32.toUInt16.toUInt32.toInt32) < 0 ∧ ¬ (255 : Int32) < ((Int64.ofNat k.val).toInt32.toUInt32.toUInt16.toUInt32.toInt32) := by decide +kernel
  have f : ∀ y : Int64, ∃ k : Fin 256, y &&& (255 : Int64) = Int64.ofNat k.val := fun y => by
    have h : (y &&& (255 : Int64)).toBitVec.toNat < 256 := by
      simp only [Int64.toBitVec_and, BitVec.toNat_and]
      exact Nat.lt_of_le_of_lt Nat.and_le_right (by decide)
    refine ⟨⟨_, h⟩, ?_⟩
    apply Int64.toBitVec_inj.mp
    show _ = BitVec.ofNat 64 _
    rw [BitVec.ofNat_toNat]; simp
  obtain ⟨k, e⟩ := f (x.toUInt64 >>> (n &&& 0x3f).toInt64.toUInt64).toInt64
  rw [own_b, e]; exact t k
theorem own_getr {cs : List Int32} (hr : ∀ c ∈ cs, ¬ c < 0 ∧ ¬ (255 : Int32) < c) (i : Nat) : ¬ cs.getD i 0 < 0 ∧ ¬ (255 : Int32) < cs.getD i 0 := by
  by_cases hi : i < cs.length
  · have e : cs.getD i 0 = cs[i] := by simp [List.getD_eq_getElem?_getD, hi]
    rw [e]; exact hr _ (List.getElem_mem _)
  · have e : cs.getD i 0 = 0 := by simp [List.getD_eq_getElem?_getD, Nat.not_lt.mp hi]
    rw [e]; decide
theorem own_atr {cs : List Int32} (hr : ∀ c ∈ cs, ¬ c < 0 ∧ ¬ (255 : Int32) < c) (i : Nat) : ¬ own_at cs i < 0 ∧ ¬ (255 : Int32) < own_at cs i := by
  rw [own_at]; split
  · exact own_getr hr i
  · decide
theorem own_atl {cs : List Int32} (hr : ∀ c ∈ cs, ¬ c < 0 ∧ ¬ (255 : Int32) < c) : ∀ c ∈ ([own_at cs 0, own_at cs 1, own_at cs 2, own_at cs 3, own_at cs 4, own_at cs 5, own_at cs 6, own_at cs 7, own_at cs 8, own_at cs 9] : List Int32), ¬ c < 0 ∧ ¬ (255 : Int32) < c := fun c hc => by
  simp only [List.mem_cons, List.not_mem_nil, or_false] at hc
  rcases hc with rfl | rfl | rfl | rfl | rfl | rfl | rfl | rfl | rfl | rfl <;> exact own_atr hr _
theorem own_lt {i n : Nat} (hi : i ≤ 100) (hn : n ≤ 100) : Int32.ofNat i < Int32.ofNat n ↔ i < n := by
  rw [Int32.lt_iff_toInt_lt, Int32.toInt_ofNat_small (by omega), Int32.toInt_ofNat_small (by omega)]; omega
theorem own_ten {L : List Int32} (h : L.length = 10) : ∃ c0 c1 c2 c3 c4 c5 c6 c7 c8 c9, L = [c0, c1, c2, c3, c4, c5, c6, c7, c8, c9] := by
  match L, h with
  | [c0, c1, c2, c3, c4, c5, c6, c7, c8, c9], _ => exact ⟨c0, c1, c2, c3, c4, c5, c6, c7, c8, c9, rfl⟩
theorem own_succ {cs : List Int32} (h : cs.length = 6 ∨ cs.length = 9) : Int32.ofNat cs.length + (1 : Int32) = Int32.ofNat (cs.length + 1) := by
  rcases h with q | q <;> rw [q] <;> decide
set_option maxRecDepth 65536 in
set_option maxHeartbeats 40000000 in
theorem c_rnn (l : Launch) (Z : State) (a0 : Array Value) (hw : ∀ d ∈ tables_1, d.before a0 Z = true) (xs : List Addr) (n0 : Nat) (h : Heap) (Z0 : n0 ≤ h.size) (b : Addr) :
    Ctr l Z consts_1 xs n0 (⟨"java/util/Objects", "requireNonNull", "(Ljava/lang/Object;)Ljava/lang/Object;"⟩ : MethodName) jdk_31_method_10_code 1 (some (.object "java/lang/Object")) [] ({ frames := 0, cells := 0, slots := 0, locals := 0 } : Room) #[(.ref b)] h (fun v h' => v = some (.ref b) ∧ h = h') := by
  refine Ctr.body pn0 ?_
  intro p e s m below meth c K
  refine Go.entry (f' := (mkF m 0 #[.val (.ref b)] [])) (by first | (simp [entryFrame, mkF, argsToLocals, Value.category]; done) | rfl) ?_
  refine Go.aloadN K (q := 1) rfl d24_0 rfl rfl ?_
  refine Go.ifnonnullY K (q := 12) (by decide) (by decide) d24_1 ?_
  refine Go.aloadN K (q := 13) rfl d24_12 rfl rfl ?_
  exact Go.retA K rfl rfl d24_13 (by decide) (by decide) (fun _ q => q) (⟨rfl, rfl⟩)
set_option maxRecDepth 65536 in
set_option maxHeartbeats 40000000 in
theorem c_oin (l : Launch) (Z : State) (a0 : Array Value) (hw : ∀ d ∈ tables_1, d.before a0 Z = true) (xs : List Addr) (n0 : Nat) (h : Heap) (Z0 : n0 ≤ h.size) (a b : Addr) (v0 : Value) (hax : a ∈ xs) (ga : n0 ≤ a) (E : Exa Z h a "java/util/Optional") (F : Fld Z h a "java/util/Optional" "value" "Ljava/lang/Object;" v0) :
    Ctr l Z consts_1 xs n0 (⟨"java/util/Optional", "<init>", "(Ljava/lang/Object;)V"⟩ : MethodName) jdk_32_method_2_code 2 none [] ({ frames := 1, cells := 0, slots := 0, locals := 12 } : Room) #[(.ref a), (.ref b)] h (fun v h' => v = none ∧ Keep h h' [a] ∧ Exa Z h' a "java/util/Optional" ∧ Fld Z h' a "java/util/Optional" "value" "Ljava/lang/Object;" (.ref b)) := by
  refine Ctr.body pn1 ?_
  intro p e s m below meth c K
  refine Go.entry (f' := (mkF m 0 #[.val (.ref a), .val (.ref b)] [])) (by first | (simp [entryFrame, mkF, argsToLocals, Value.category]; done) | rfl) ?_
  have K0 := Keep.refl h [a]
  refine Go.aloadN K (q := 1) rfl d25_0 rfl rfl ?_
  refine Go.initO K (q := 4) rfl (hw _ (List.mem_of_getElem? (i := 137) rfl)) (hw _ (List.mem_of_getElem? (i := 21) rfl)) (hw _ (List.mem_of_getElem? (i := 22) rfl)) rfl d25_1 (by decide) (W := 0) (Nat.le_of_eq rfl) (by decide) ?_
  refine Go.aloadN K (q := 5) rfl d25_4 rfl rfl ?_
  refine Go.aloadN K (q := 6) rfl d25_5 rfl rfl ?_
  refine Go.putF K (q := 9) rfl (hw _ (List.mem_of_getElem? (i := 87) rfl)) Via.refl F E (Or.inr ⟨(hw _ (List.mem_of_getElem? (i := 88) rfl)), rfl, rfl⟩) (hw _ (List.mem_of_getElem? (i := 128) rfl)) (ty := (.object "java/lang/Object")) (by decide) rfl rfl d25_6 ga hax ?_
  intro h1 W2 F E
  have K0 := K0.wr W2 (Or.inl List.mem_cons_self)
  exact Go.retV K d25_9 (by decide) (by decide) (fun _ q => q) (⟨rfl, K0, E, F⟩)
set_option maxRecDepth 65536 in
set_option maxHeartbeats 40000000 in
theorem c_oof (l : Launch) (Z : State) (a0 : Array Value) (hw : ∀ d ∈ tables_1, d.before a0 Z = true) (xs : List Addr) (n0 : Nat) (h : Heap) (Z0 : n0 ≤ h.size) (b : Addr) :
    Ctr l Z consts_1 xs n0 (⟨"java/util/Optional", "of", "(Ljava/lang/Object;)Ljava/util/Optional;"⟩ : MethodName) jdk_32_method_3_code 1 (some (.object "java/util/Optional")) [] ({ frames := 2, cells := 1, slots := 1, locals := 26 } : Room) #[(.ref b)] h (fun v h' => ∃ r, v = some (.ref r) ∧ Ext h h' ∧ Exa Z h' r "java/util/Optional" ∧ Fld Z h' r "java/util/Optional" "value" "Ljava/lang/Object;" (.ref b)) := by
  refine Ctr.body pn2 ?_
  intro p e s m below meth c K
  refine Go.entry (f' := (mkF m 0 #[.val (.ref b)] [])) (by first | (simp [entryFrame, mkF, argsToLocals, Value.category]; done) | rfl) ?_
  have E0 := Ext.refl h
  refine Go.new K (q := 3) rfl (hw _ (List.mem_of_getElem? (i := 127) rfl)) (hw _ (List.mem_of_getElem? (i := 128) rfl)) (hw _ (List.mem_of_getElem? (i := 79) rfl)) d23_0 (cells' := 1) (slots' := 1) rfl rfl (by decide) (by decide) ?_
  intro h1 oa g_oa N_oa X_oa D_oa
  have ge_E0_oa : h.size ≤ oa := Nat.le_trans E0.1 (Nat.le_of_eq g_oa.symm)
  have E0 := Ext.trans E0 N_oa
  have F0 : Fld Z h1 oa "java/util/Optional" "value" "Ljava/lang/Object;" .null := D_oa (Or.inr (hw _ (List.mem_of_getElem? (i := 88) rfl))) (ty := .object "java/lang/Object") (by decide)
  have n_oa : n0 ≤ oa := Nat.le_trans Z0 ge_E0_oa
  refine Go.dup K (q := 4) rfl d23_3 rfl ?_
  refine Go.aloadN K (q := 5) rfl d23_4 rfl rfl ?_
  refine Go.cS K (q := 8) rfl (y := (⟨"java/util/Objects", "requireNonNull", "(Ljava/lang/Object;)Ljava/lang/Object;"⟩ : MethodName)) (c_rnn l Z a0 hw (oa :: xs) n0 h1 (Nat.le_trans Z0 E0.1) b) (hw _ (List.mem_of_getElem? (i := 129) rfl)) (hw _ (List.mem_of_getElem? (i := 130) rfl)) (hw _ (List.mem_of_getElem? (i := 131) rfl)) (hw _ (List.mem_of_getElem? (i := 132) rfl)) (by decide) pd0 (argsL := [(.ref b)]) (rest := [(.ref oa), (.ref oa)]) rfl rfl rfl rfl (W := 2) (Nat.le_of_eq rfl) (by decide) (by decide) d23_5 (cells' := 1) (slots' := 1) rfl rfl (by decide) (by decide) ?_
  intro r3 h2 hQ sz_h2
  obtain ⟨rfl, rfl⟩ := hQ
  show Go p l e _ s m _ below meth c _ _ _ _ _ _ _ _ _ h1 1 1 (mkF m 8 #[.val (.ref b)] [(.ref b), (.ref oa), (.ref oa)])
  refine Go.cI K (q := 11) rfl (y := (⟨"java/util/Optional", "<init>", "(Ljava/lang/Object;)V"⟩ : MethodName)) (c_oin l Z a0 hw (oa :: xs) n0 h1 (Nat.le_trans Z0 E0.1) oa b _ List.mem_cons_self n_oa X_oa F0) rfl (hw _ (List.mem_of_getElem? (i := 133) rfl)) (hw _ (List.mem_of_getElem? (i := 134) rfl)) (hw _ (List.mem_of_getElem? (i := 79) rfl)) (hw _ (List.mem_of_getElem? (i := 136) rfl)) (by decide) (a := oa) pd1 (argsL := [(.ref b)]) (rest := [(.ref oa)]) rfl rfl rfl rfl (W := 1) (Nat.le_of_eq rfl) (by decide) (by decide) d23_8 (cells' := 1) (slots' := 1) rfl rfl (by decide) (by decide) ?_
  intro r5 h4 hQ sz_h4
  obtain ⟨rfl, KK, X2, G0⟩ := hQ
  have E0 := Ext.keep E0 KK (allS ge_E0_oa all0)
  show Go p l e _ s m _ below meth c _ _ _ _ _ _ _ _ _ h4 1 1 (mkF m 11 #[.val (.ref b)] [(.ref oa)])
  exact Go.retA K rfl rfl d23_11 (by decide) (by decide) (fun _ q => (List.mem_cons_of_mem _ q)) (⟨oa, rfl, E0, X2, G0⟩)
set_option maxRecDepth 65536 in
set_option maxHeartbeats 40000000 in
theorem c_oem (l : Launch) (Z : State) (a0 : Array Value) (hw : ∀ d ∈ tables_1, d.before a0 Z = true) (xs : List Addr) (n0 : Nat) (h : Heap) (Z0 : n0 ≤ h.size) (oe : Addr) (SE : Sta Z h "java/util/Optional" "EMPTY" "Ljava/util/Optional;" (.ref oe)) :
    Ctr l Z consts_1 xs n0 (⟨"java/util/Optional", "empty", "()Ljava/util/Optional;"⟩ : MethodName) jdk_32_method_1_code 1 (some (.object "java/util/Optional")) [] ({ frames := 0, cells := 0, slots := 0, locals := 0 } : Room) #[] h (fun v h' => v = some (.ref oe) ∧ h = h') := by
  refine Ctr.body pn3 ?_
  intro p e s m below meth c K
  refine Go.entry (f' := (mkF m 0 #[.unset] [])) (by first | (simp [entryFrame, mkF, argsToLocals, Value.category]; done) | rfl) ?_
  refine Go.getS K (q := 3) rfl (hw _ (List.mem_of_getElem? (i := 81) rfl)) Via.refl (SE) d13_0 ?_
  refine Go.astoreN K (q := 4) rfl (L' := #[.val (.ref oe)]) d13_3 rfl rfl ?_
  refine Go.aloadN K (q := 5) rfl d13_4 rfl rfl ?_
  exact Go.retA K rfl rfl d13_5 (by decide) (by decide) (fun _ q => q) (⟨rfl, rfl⟩)
set_option maxRecDepth 65536 in
set_option maxHeartbeats 40000000 in
theorem c_oip0 (l : Launch) (Z : State) (a0 : Array Value) (hw : ∀ d ∈ tables_1, d.before a0 Z = true) (xs : List Addr) (n0 : Nat) (h : Heap) (Z0 : n0 ≤ h.size) (a : Addr) (F : Fld Z h a "java/util/Optional" "value" "Ljava/lang/Object;" .null) :
    Ctr l Z consts_1 xs n0 (⟨"java/util/Optional", "isPresent", "()Z"⟩ : MethodName) jdk_32_method_6_code 1 (some .boolean) [] ({ frames := 0, cells := 0, slots := 0, locals := 0 } : Room) #[(.ref a)] h (fun v h' => v = some (.int 0) ∧ h = h') := by
  refine Ctr.body pn4 ?_
  intro p e s m below meth c K
  refine Go.entry (f' := (mkF m 0 #[.val (.ref a)] [])) (by first | (simp [entryFrame, mkF, argsToLocals, Value.category]; done) | rfl) ?_
  refine Go.aloadN K (q := 1) rfl d14_0 rfl rfl ?_
  refine Go.getF K (q := 4) rfl (hw _ (List.mem_of_getElem? (i := 87) rfl)) Via.refl (F) d14_1 ?_
  refine Go.ifnullY K (q := 11) (by decide) (by decide) d14_4 ?_
  refine Go.iconst K (q := 12) rfl (v := (0 : Int32)) (by decide) d14_11 ?_
  exact Go.retN K (by simp) d14_12 (by decide) (by decide) (fun _ q => q) (⟨rfl, rfl⟩)
set_option maxRecDepth 65536 in
set_option maxHeartbeats 40000000 in
theorem c_oip1 (l : Launch) (Z : State) (a0 : Array Value) (hw : ∀ d ∈ tables_1, d.before a0 Z = true) (xs : List Addr) (n0 : Nat) (h : Heap) (Z0 : n0 ≤ h.size) (a b : Addr) (F : Fld Z h a "java/util/Optional" "value" "Ljava/lang/Object;" (.ref b)) :
    Ctr l Z consts_1 xs n0 (⟨"java/util/Optional", "isPresent", "()Z"⟩ : MethodName) jdk_32_method_6_code 1 (some .boolean) [] ({ frames := 0, cells := 0, slots := 0, locals := 0 } : Room) #[(.ref a)] h (fun v h' => v = some (.int 1) ∧ h = h') := by
  refine Ctr.body pn4 ?_
  intro p e s m below meth c K
  refine Go.entry (f' := (mkF m 0 #[.val (.ref a)] [])) (by first | (simp [entryFrame, mkF, argsToLocals, Value.category]; done) | rfl) ?_
  refine Go.aloadN K (q := 1) rfl d14_0 rfl rfl ?_
  refine Go.getF K (q := 4) rfl (hw _ (List.mem_of_getElem? (i := 87) rfl)) Via.refl (F) d14_1 ?_
  refine Go.ifnullN K (q := 7) rfl d14_4 ?_
  refine Go.iconst K (q := 8) rfl (v := (1 : Int32)) (by decide) d14_7 ?_
  refine Go.goto K (q := 12) (by decide) (by decide) d14_8 ?_
  exact Go.retN K (by simp) d14_12 (by decide) (by decide) (fun _ q => q) (⟨rfl, rfl⟩)
set_option maxRecDepth 65536 in
set_option maxHeartbeats 40000000 in
theorem c_og (l : Launch) (Z : State) (a0 : Array Value) (hw : ∀ d ∈ tables_1, d.before a0 Z = true) (xs : List Addr) (n0 : Nat) (h : Heap) (Z0 : n0 ≤ h.size) (a b : Addr) (F : Fld Z h a "java/util/Optional" "value" "Ljava/lang/Object;" (.ref b)) :
    Ctr l Z consts_1 xs n0 (⟨"java/util/Optional", "get", "()Ljava/lang/Object;"⟩ : MethodName) jdk_32_method_5_code 1 (some (.object "java/lang/Object")) [] ({ frames := 0, cells := 0, slots := 0, locals := 0 } : Room) #[(.ref a)] h (fun v h' => v = some (.ref b) ∧ h = h') := by
  refine Ctr.body pn5 ?_
  intro p e s m below meth c K
  refine Go.entry (f' := (mkF m 0 #[.val (.ref a)] [])) (by first | (simp [entryFrame, mkF, argsToLocals, Value.category]; done) | rfl) ?_
  refine Go.aloadN K (q := 1) rfl d26_0 rfl rfl ?_
  refine Go.getF K (q := 4) rfl (hw _ (List.mem_of_getElem? (i := 87) rfl)) Via.refl (F) d26_1 ?_
  refine Go.ifnonnullY K (q := 17) (by decide) (by decide) d26_4 ?_
  refine Go.aloadN K (q := 18) rfl d26_17 rfl rfl ?_
  refine Go.getF K (q := 21) rfl (hw _ (List.mem_of_getElem? (i := 87) rfl)) Via.refl (F) d26_18 ?_
  exact Go.retA K rfl rfl d26_21 (by decide) (by decide) (fun _ q => q) (⟨rfl, rfl⟩)
set_option maxRecDepth 65536 in
set_option maxHeartbeats 40000000 in
theorem c_e4 (l : Launch) (Z : State) (a0 : Array Value) (hw : ∀ d ∈ tables_1, d.before a0 Z = true) (xs : List Addr) (n0 : Nat) (h : Heap) (Z0 : n0 ≤ h.size) (a b : Addr) (v0 c0 : Value) (hax : a ∈ xs) (ga : n0 ≤ a) (E : Exa Z h a "java/lang/String") (Fv : Fld Z h a "java/lang/String" "value" "[B" v0) (Fc : Fld Z h a "java/lang/String" "coder" "B" c0) :
    Ctr l Z consts_1 xs n0 (⟨"java/lang/String", "<init>", "([CIILjava/lang/Void;)V"⟩ : MethodName) jdk_42_method_149_code 6 none [] ({ frames := 1, cells := 4, slots := 8, locals := 12 } : Room) #[(.ref a), (.ref b), (.int (0 : Int32)), (.int (0 : Int32)), .null] h (fun v h' => v = none ∧ Keep h h' [a] ∧ Str Z h' a []) := by
  refine Ctr.body pn6 ?_
  intro p e s m below meth c K
  have own_atoms := own_atoms0 hw
  refine Go.entry (f' := (mkF m 0 #[.val (.ref a), .val (.ref b), .val (.int (0 : Int32)), .val (.int (0 : Int32)), .val .null, .unset] [])) (by first | (simp [entryFrame, mkF, argsToLocals, Value.category]; done) | rfl) ?_
  have K0 := Keep.refl h [a]
  refine Go.aloadN K (q := 1) rfl d4_0 rfl rfl ?_
  refine Go.initO K (q := 4) rfl (hw _ (List.mem_of_getElem? (i := 20) rfl)) (hw _ (List.mem_of_getElem? (i := 21) rfl)) (hw _ (List.mem_of_getElem? (i := 22) rfl)) rfl d4_1 (by decide) (W := 0) (Nat.le_of_eq rfl) (by decide) ?_
  refine Go.iloadN K (q := 5) rfl d4_4 rfl ?_
  refine Go.ifN K (q := 8) rfl d4_5 (show (0 : Int32) = (0 : Int32) from rfl) ?_
  refine Go.aloadN K (q := 9) rfl d4_8 rfl rfl ?_
  refine Go.ldcS K (q := 11) rfl (text := "") (by decide) (hw _ (List.mem_of_getElem? (i := 146) rfl)) own_atoms (by decide) d4_9 (n := 0) (by decide) (by decide) (cells' := 2) (slots' := 4) rfl rfl (by decide) (by decide) ?_
  intro h1 s2 N_s2 T_s2
  have K0 := K0.ext N_s2
  have E := E.ext N_s2
  have Fv := Fv.ext N_s2
  have Fc := Fc.ext N_s2
  obtain ⟨us1, hu1, t1, kb1, L1_1, L2_1, L3_1, L4_1, L5_1, L6_1⟩ := T_s2
  refine Go.getF K (q := 14) rfl (hw _ (List.mem_of_getElem? (i := 37) rfl)) Via.refl (L2_1) d4_11 ?_
  have S1 : Str Z h1 s2 (chs "") := Str.lit (by decide) (by decide) ⟨us1, hu1, t1, kb1, L1_1, L2_1, L3_1, L4_1, L5_1, L6_1⟩
  refine Go.putF K (q := 17) rfl (hw _ (List.mem_of_getElem? (i := 37) rfl)) Via.refl Fv E (Or.inr ⟨(hw _ (List.mem_of_getElem? (i := 38) rfl)), rfl, rfl⟩) (hw _ (List.mem_of_getElem? (i := 11) rfl)) (ty := (.array .byte)) (by decide) rfl rfl d4_14 ga hax ?_
  intro h3 W4 Fv E
  have Fc := Fc.other W4 (Or.inr (own_slots hw))
  have K0 := K0.wr W4 (Or.inl List.mem_cons_self)
  have A4 := L4_1.other W4 (fun q => L6_1 (q ▸ hax))
  refine Go.aloadN K (q := 18) rfl d4_17 rfl rfl ?_
  refine Go.ldcS K (q := 20) rfl (text := "") (by decide) (hw _ (List.mem_of_getElem? (i := 146) rfl)) own_atoms (by decide) d4_18 (n := 0) (by decide) (by decide) (cells' := 4) (slots' := 8) rfl rfl (by decide) (by decide) ?_
  intro h5 s6 N_s6 T_s6
  have K0 := K0.ext N_s6
  have E := E.ext N_s6
  have Fv := Fv.ext N_s6
  have Fc := Fc.ext N_s6
  obtain ⟨us2, hu2, t2, kb2, L1_2, L2_2, L3_2, L4_2, L5_2, L6_2⟩ := T_s6
  have A4 := A4.ext N_s6
  refine Go.getF K (q := 23) rfl (hw _ (List.mem_of_getElem? (i := 35) rfl)) Via.refl (L3_2) d4_20 ?_
  refine Go.putF K (q := 26) rfl (hw _ (List.mem_of_getElem? (i := 35) rfl)) Via.refl Fc E (Or.inr ⟨(hw _ (List.mem_of_getElem? (i := 36) rfl)), rfl, rfl⟩) (hw _ (List.mem_of_getElem? (i := 11) rfl)) (ty := .byte) (by decide) rfl rfl d4_23 ga hax ?_
  intro h7 W8 Fc E
  have Fv := Fv.other W8 (Or.inr (Ne.symm (own_slots hw)))
  have K0 := K0.wr W8 (Or.inl List.mem_cons_self)
  have A4 := A4.other W8 (fun q => L6_1 (q ▸ hax))
  have us0 : us1.size = 0 := by rw [← Array.length_toList, Jvm.ClassFile.units_of_text hu1 (by decide)]; rfl
  have ut0 : us1.toList = [] := by rw [Jvm.ClassFile.units_of_text hu1 (by decide)]; rfl
  rw [us0, ut0] at A4
  exact Go.retV K d4_26 (by decide) (by decide) (fun _ q => q) (⟨rfl, K0, t1, kb1, 0, 0, [], E, Fv, Fc, A4, Or.inl ⟨rfl, rfl, rfl, by intro c hc; cases hc⟩, (by intro c hc; cases hc), by decide⟩)
set_option maxRecDepth 65536 in
set_option maxHeartbeats 40000000 in
theorem c_e1 (l : Launch) (Z : State) (a0 : Array Value) (hw : ∀ d ∈ tables_1, d.before a0 Z = true) (xs : List Addr) (n0 : Nat) (h : Heap) (Z0 : n0 ≤ h.size) (a b : Addr) (kb : ClassId) (dv v0 c0 : Value) (hax : a ∈ xs) (ga : n0 ≤ a) (E : Exa Z h a "java/lang/String") (Fv : Fld Z h a "java/lang/String" "value" "[B" v0) (Fc : Fld Z h a "java/lang/String" "coder" "B" c0) (V : Arv Z h b kb .char (0 : Int32) [] dv) :
    Ctr l Z consts_1 xs n0 (⟨"java/lang/String", "<init>", "([C)V"⟩ : MethodName) jdk_42_method_3_code 2 none [] ({ frames := 2, cells := 4, slots := 8, locals := 29 } : Room) #[(.ref a), (.ref b)] h (fun v h' => v = none ∧ Keep h h' [a] ∧ Str Z h' a []) := by
  refine Ctr.body pn7 ?_
  intro p e s m below meth c K
  refine Go.entry (f' := (mkF m 0 #[.val (.ref a), .val (.ref b)] [])) (by first | (simp [entryFrame, mkF, argsToLocals, Value.category]; done) | rfl) ?_
  refine Go.aloadN K (q := 1) rfl d3_0 rfl rfl ?_
  refine Go.aloadN K (q := 2) rfl d3_1 rfl rfl ?_
  refine Go.iconst K (q := 3) rfl (v := (0 : Int32)) (by decide) d3_2 ?_
  refine Go.aloadN K (q := 4) rfl d3_3 rfl rfl ?_
  refine Go.alen K (q := 5) rfl V d3_4 ?_
  refine Go.aconstNull K (q := 6) rfl d3_5 ?_
  show Go p l e _ s m _ below meth c _ _ _ _ _ _ _ _ _ h 0 0 (mkF m 6 #[.val (.ref a), .val (.ref b)] [.null, (.int (0 : Int32)), (.int (0 : Int32)), (.ref b), (.ref a)])
  refine Go.cI K (q := 9) rfl (y := (⟨"java/lang/String", "<init>", "([CIILjava/lang/Void;)V"⟩ : MethodName)) (c_e4 l Z a0 hw xs n0 h Z0 a b _ _ hax ga E Fv Fc) rfl (hw _ (List.mem_of_getElem? (i := 16) rfl)) (hw _ (List.mem_of_getElem? (i := 17) rfl)) (hw _ (List.mem_of_getElem? (i := 12) rfl)) (hw _ (List.mem_of_getElem? (i := 19) rfl)) (by decide) (a := a) pd2 (argsL := [(.ref b), (.int (0 : Int32)), (.int (0 : Int32)), .null]) (rest := []) rfl rfl rfl rfl (W := 0) (Nat.le_of_eq rfl) (by decide) (by decide) d3_6 (cells' := 4) (slots' := 8) rfl rfl (by decide) (by decide) ?_
  intro r2 h1 hQ sz_h1
  obtain ⟨rfl, K0, S0⟩ := hQ
  show Go p l e _ s m _ below meth c _ _ _ _ _ _ _ _ _ h1 4 8 (mkF m 9 #[.val (.ref a), .val (.ref b)] [])
  exact Go.retV K d3_9 (by decide) (by decide) (fun _ q => q) (⟨rfl, K0, S0⟩)
set_option maxRecDepth 65536 in
set_option maxHeartbeats 40000000 in
theorem c_b (l : Launch) (Z : State) (a0 : Array Value) (hw : ∀ d ∈ tables_1, d.before a0 Z = true) (xs : List Addr) (n0 : Nat) (h : Heap) (Z0 : n0 ≤ h.size) (x : Int64) (n : Int32) :
    Ctr l Z consts_1 xs n0 (⟨"com/example/tasklane/tasklane/engine/InstanceStateFromIdPinLaw", "b", "(JI)C"⟩ : MethodName) method_3_code 3 (some .char) [] ({ frames := 0, cells := 0, slots := 0, locals := 0 } : Room) #[(.long x), (.int n)] h (fun v h' => v = some (.int (own_b x n)) ∧ h = h') := by
  refine Ctr.body pn8 ?_
  intro p e s m below meth c K
  refine Go.entry (f' := (mkF m 0 #[.val (.long x), .second, .val (.int n)] [])) (by first | (simp [entryFrame, mkF, argsToLocals, Value.category]; done) | rfl) ?_
  refine Go.lloadN K (q := 1) rfl d1_0 rfl ?_
  refine Go.iloadN K (q := 2) rfl d1_1 rfl ?_
  refine Go.lushr K (q := 3) rfl d1_2 ?_
  refine Go.ldc2Long K (q := 6) rfl (v := (255 : Int64)) (hw _ (List.mem_of_getElem? (i := 5) rfl)) d1_3 ?_
  refine Go.land K (q := 7) rfl d1_6 ?_
  refine Go.l2i K (q := 8) rfl d1_7 ?_
  refine Go.i2c K (q := 9) rfl d1_8 ?_
  show Go p l e _ s m _ below meth c _ _ _ _ _ _ _ _ _ h 0 0 (mkF m 9 #[.val (.long x), .second, .val (.int n)] [(.int (((x.toUInt64 >>> (n &&& 0x3f).toInt64.toUInt64).toInt64) &&& (255 : Int64)).toInt32.toUInt32.toUInt16.toUInt32.toInt32)])
  exact Go.retN K (by simp) d1_9 (by decide) (by decide) (fun _ q => q) (⟨congrArg (fun t => some (Value.int t)) (own_nc (own_br x n)), rfl⟩)
set_option maxRecDepth 65536 in
set_option maxHeartbeats 40000000 in
theorem c_at (l : Launch) (Z : State) (a0 : Array Value) (hw : ∀ d ∈ tables_1, d.before a0 Z = true) (xs : List Addr) (n0 : Nat) (h : Heap) (Z0 : n0 ≤ h.size) (st : Addr) (j : Int32) (i : Nat) (hj : j = Int32.ofNat i) (hi : i ≤ 100) (cs : List Int32) (hn : cs.length ≤ 100) (hrng : ∀ c ∈ cs, ¬ c < 0 ∧ ¬ (255 : Int32) < c) (hlat : ∀ c ∈ cs, ¬ (255 : Int32) < c) (S1 : Str Z h st cs) (z : Int32) (Sa : Sta Z h "java/lang/String" "COMPACT_STRINGS" "Z" (.int z)) (hz : ¬ z = 0) (fm : Value) (rf : fm.isRef = true) (Sf : Sta Z h "jdk/internal/util/Preconditions" "SIOOBE_FORMATTER" "Ljava/util/function/BiFunction;" fm) :
    Ctr l Z consts_1 xs n0 (⟨"com/example/tasklane/tasklane/engine/InstanceStateFromIdPinLaw", "at", "(Ljava/lang/String;I)C"⟩ : MethodName) method_4_code 2 (some .char) [] ({ frames := 4, cells := 0, slots := 0, locals := 53 } : Room) #[(.ref st), (.int j)] h (fun v h' => v = some (.int (own_at cs i)) ∧ h = h') := by
  refine Ctr.body pn9 ?_
  intro p e s m below meth c K
  refine Go.entry (f' := (mkF m 0 #[.val (.ref st), .val (.int j)] [])) (by first | (simp [entryFrame, mkF, argsToLocals, Value.category]; done) | rfl) ?_
  refine Go.iloadN K (q := 1) rfl d17_0 rfl ?_
  refine Go.aloadN K (q := 2) rfl d17_1 rfl rfl ?_
  refine Go.strLen K (q := 5) rfl (own_wordsLen hw) (hw _ (List.mem_of_getElem? (i := 11) rfl)) (hw _ (List.mem_of_getElem? (i := 89) rfl)) (hw _ (List.mem_of_getElem? (i := 90) rfl)) (hw _ (List.mem_of_getElem? (i := 92) rfl)) (hw _ (List.mem_of_getElem? (i := 91) rfl)) (S1) (Sa) hz d17_2 (by decide) rfl (W := 1) (Nat.le_of_eq rfl) (by decide) (by decide) (by decide) ?_
  have hget : ¬ cs.getD i 0 < 0 ∧ ¬ (255 : Int32) < cs.getD i 0 := own_getr hrng i
  refine Go.icmp K (q := 16) (q' := 8) (by decide) (by decide) rfl d17_5 (fun (hj1 : ¬ j < (Int32.ofNat cs.length)) => ?_) (fun (hj1 : j < (Int32.ofNat cs.length)) => ?_)
  · skip
    refine Go.bipush K (q := 18) rfl (v := (120 : Int32)) (by decide) d17_16 ?_
    exact Go.retN K (by simp) d17_18 (by decide) (by decide) (fun _ q => q) (⟨by rw [own_at, if_neg (fun q => hj1 (by rw [hj]; exact (own_lt hi hn).mpr q))]; rfl, rfl⟩)
  · skip
    refine Go.aloadN K (q := 9) rfl d17_8 rfl rfl ?_
    refine Go.iloadN K (q := 10) rfl d17_9 rfl ?_
    refine Go.strCh K (q := 13) rfl (own_wordsChN hw) (hw _ (List.mem_of_getElem? (i := 11) rfl)) (hw _ (List.mem_of_getElem? (i := 102) rfl)) (hw _ (List.mem_of_getElem? (i := 103) rfl)) (hw _ (List.mem_of_getElem? (i := 105) rfl)) (hw _ (List.mem_of_getElem? (i := 104) rfl)) (S1) (Sa) hz (Sf) rf (hlat) ((own_lt hi hn).mp (hj ▸ hj1)) (hj) d17_10 (by decide) rfl (W := 0) (Nat.le_of_eq rfl) (by decide) (by decide) (by decide) ?_
    refine Go.goto K (q := 18) (by decide) (by decide) d17_13 ?_
    exact Go.retN K (by simp) d17_18 (by decide) (by decide) (fun _ q => q) (⟨by rw [own_at, if_pos ((own_lt hi hn).mp (hj ▸ hj1)), own_nc hget], rfl⟩)
set_option maxRecDepth 65536 in
set_option maxHeartbeats 40000000 in
theorem c_pre (l : Launch) (Z : State) (a0 : Array Value) (hw : ∀ d ∈ tables_1, d.before a0 Z = true) (xs : List Addr) (n0 : Nat) (h : Heap) (Z0 : n0 ≤ h.size) (ca : Addr) (kc : ClassId) (n : Nat) (hn : n ≤ 10) (c0 c1 c2 c3 c4 c5 c6 c7 c8 c9 : Int32) (hc0 : ¬ c0 < 0 ∧ ¬ (255 : Int32) < c0) (hc1 : ¬ c1 < 0 ∧ ¬ (255 : Int32) < c1) (hc2 : ¬ c2 < 0 ∧ ¬ (255 : Int32) < c2) (hc3 : ¬ c3 < 0 ∧ ¬ (255 : Int32) < c3) (hc4 : ¬ c4 < 0 ∧ ¬ (255 : Int32) < c4) (hc5 : ¬ c5 < 0 ∧ ¬ (255 : Int32) < c5) (hc6 : ¬ c6 < 0 ∧ ¬ (255 : Int32) < c6) (hc7 : ¬ c7 < 0 ∧ ¬ (255 : Int32) < c7) (hc8 : ¬ c8 < 0 ∧ ¬ (255 : Int32) < c8) (hc9 : ¬ c9 < 0 ∧ ¬ (255 : Int32) < c9) (V : Arv Z h ca kc .char (10 : Int32) [.int c0, .int c1, .int c2, .int c3, .int c4, .int c5, .int c6, .int c7, .int c8, .int c9] (.int (0 : Int32))) (z : Int32) (Sa : Sta Z h "java/lang/String" "COMPACT_STRINGS" "Z" (.int z)) (hz : ¬ z = 0) :
    Ctr l Z consts_1 xs n0 (⟨"com/example/tasklane/tasklane/engine/InstanceStateFromIdPinLaw", "prefix", "([CI)Ljava/lang/String;"⟩ : MethodName) method_5_code 2 (some (.object "java/lang/String")) [] ({ frames := 4, cells := 6, slots := 24, locals := 66 } : Room) #[(.ref ca), (.int (Int32.ofNat n))] h (fun v h' => ∃ a cs, v = some (.ref a) ∧ Ext h h' ∧ Str Z h' a cs) := by
  refine Ctr.body pn10 ?_
  intro p e s m below meth c K
  have own_words' := own_words hw
  have own_words : ∀ d ∈ StrChars.Road.words, d.before a0 Z = true := fun d hd => hw d ((by decide +kernel : ∀ d ∈ StrChars.Road.words, d ∈ tables_1) d hd)
  refine Go.entry (f' := (mkF m 0 #[.val (.ref ca), .val (.int (Int32.ofNat n))] [])) (by first | (simp [entryFrame, mkF, argsToLocals, Value.category]; done) | rfl) ?_
  have E0 := Ext.refl h
  refine Go.iloadN K (q := 1) rfl d2_0 rfl ?_
  obtain rfl | rfl | rfl | rfl | rfl | rfl | rfl | rfl | rfl | rfl | rfl : n = 0 ∨ n = 1 ∨ n = 2 ∨ n = 3 ∨ n = 4 ∨ n = 5 ∨ n = 6 ∨ n = 7 ∨ n = 8 ∨ n = 9 ∨ n = 10 := by omega
  · skip
    refine Go.tswIn K (q := 56) (o := 55) d2_1 (by decide) (by decide) (by decide) (by decide) ?_
    show Go p l e _ s m _ below meth c _ _ _ _ _ _ _ _ _ h 0 0 (mkF m 56 #[.val (.ref ca), .val (.int (Int32.ofNat 0))] [])
    refine Go.new K (q := 59) rfl (hw _ (List.mem_of_getElem? (i := 10) rfl)) (hw _ (List.mem_of_getElem? (i := 11) rfl)) (hw _ (List.mem_of_getElem? (i := 12) rfl)) d2_56 (cells' := 1) (slots' := 4) rfl rfl (by decide) (by decide) ?_
    intro h2 a1 g_a1 N_a1 X_a1 D_a1
    have ge_E0_a1 : h.size ≤ a1 := Nat.le_trans E0.1 (Nat.le_of_eq g_a1.symm)
    have E0 := Ext.trans E0 N_a1
    have Fv_a1 : Fld Z h2 a1 "java/lang/String" "value" "[B" .null := D_a1 (Or.inr (hw _ (List.mem_of_getElem? (i := 38) rfl))) (ty := .array .byte) (by decide)
    have Fc_a1 : Fld Z h2 a1 "java/lang/String" "coder" "B" (.int (0 : Int32)) := D_a1 (Or.inr (hw _ (List.mem_of_getElem? (i := 36) rfl))) (ty := .byte) (by decide)
    have n_a1 : n0 ≤ a1 := Nat.le_trans Z0 ge_E0_a1
    refine Go.dup K (q := 60) rfl d2_59 rfl ?_
    refine Go.iconst K (q := 61) rfl (v := (0 : Int32)) (by decide) d2_60 ?_
    refine Go.newarr K (q := 63) rfl (hw _ (List.mem_of_getElem? (i := 0) rfl)) d2_61 (by decide) (cap := 0) (by decide) (by decide) (cells' := 2) (slots' := 4) rfl rfl (by decide) (by decide) ?_
    intro h4 a3 k_a3 g_a3 N_a3 V_a3
    have V_a3 : Arv Z h4 a3 k_a3 .char (0 : Int32) [] (.int (0 : Int32)) := V_a3
    have ge_E0_a3 : h.size ≤ a3 := Nat.le_trans E0.1 (Nat.le_of_eq g_a3.symm)
    have E0 := Ext.trans E0 N_a3
    have X_a1 := X_a1.ext N_a3
    have Fv_a1 := Fv_a1.ext N_a3
    have Fc_a1 := Fc_a1.ext N_a3
    refine Go.cI K (q := 66) rfl (y := (⟨"java/lang/String", "<init>", "([C)V"⟩ : MethodName)) (c_e1 l Z a0 hw (a3 :: a1 :: xs) n0 h4 (Nat.le_trans Z0 E0.1) a1 a3 _ _ _ _ (List.mem_cons_of_mem _ List.mem_cons_self) n_a1 X_a1 Fv_a1 Fc_a1 V_a3) rfl (hw _ (List.mem_of_getElem? (i := 13) rfl)) (hw _ (List.mem_of_getElem? (i := 14) rfl)) (hw _ (List.mem_of_getElem? (i := 12) rfl)) (hw _ (List.mem_of_getElem? (i := 15) rfl)) (by decide) (a := a1) pd3 (argsL := [(.ref a3)]) (rest := [(.ref a1)]) rfl rfl rfl rfl (W := 1) (Nat.le_of_eq rfl) (by decide) (by decide) d2_63 (cells' := 6) (slots' := 12) rfl rfl (by decide) (by decide) ?_
    intro r7 h6 hQ sz_h6
    obtain ⟨rfl, K5, S_a1⟩ := hQ
    have E0 := Ext.keep E0 K5 (allS ge_E0_a1 all0)
    show Go p l e _ s m _ below meth c _ _ _ _ _ _ _ _ _ h6 6 12 (mkF m 66 #[.val (.ref ca), .val (.int (Int32.ofNat 0))] [(.ref a1)])
    exact Go.retA K rfl rfl d2_66 (by decide) (by decide) (fun _ q => (List.mem_cons_of_mem _ (List.mem_cons_of_mem _ q))) (⟨a1, _, rfl, E0, S_a1⟩)
  · skip
    refine Go.tswIn K (q := 67) (o := 66) d2_1 (by decide) (by decide) (by decide) (by decide) ?_
    show Go p l e _ s m _ below meth c _ _ _ _ _ _ _ _ _ h 0 0 (mkF m 67 #[.val (.ref ca), .val (.int (Int32.ofNat 1))] [])
    refine Go.new K (q := 70) rfl (hw _ (List.mem_of_getElem? (i := 10) rfl)) (hw _ (List.mem_of_getElem? (i := 11) rfl)) (hw _ (List.mem_of_getElem? (i := 12) rfl)) d2_67 (cells' := 1) (slots' := 4) rfl rfl (by decide) (by decide) ?_
    intro h9 a8 g_a8 N_a8 X_a8 D_a8
    have ge_E0_a8 : h.size ≤ a8 := Nat.le_trans E0.1 (Nat.le_of_eq g_a8.symm)
    have E0 := Ext.trans E0 N_a8
    have Fv_a8 : Fld Z h9 a8 "java/lang/String" "value" "[B" .null := D_a8 (Or.inr (hw _ (List.mem_of_getElem? (i := 38) rfl))) (ty := .array .byte) (by decide)
    have Fc_a8 : Fld Z h9 a8 "java/lang/String" "coder" "B" (.int (0 : Int32)) := D_a8 (Or.inr (hw _ (List.mem_of_getElem? (i := 36) rfl))) (ty := .byte) (by decide)
    have n_a8 : n0 ≤ a8 := (Nat.le_trans Z0 ge_E0_a8)
    refine Go.dup K (q := 71) rfl d2_70 rfl ?_
    refine Go.iconst K (q := 72) rfl (v := (1 : Int32)) (by decide) d2_71 ?_
    refine Go.newarr K (q := 74) rfl (hw _ (List.mem_of_getElem? (i := 0) rfl)) d2_72 (by decide) (cap := 1) (by decide) (by decide) (cells' := 2) (slots' := 5) rfl rfl (by decide) (by decide) ?_
    intro h11 a10 k_a10 g_a10 N_a10 V_a10
    have V_a10 : Arv Z h11 a10 k_a10 .char (1 : Int32) [(.int (0 : Int32))] (.int (0 : Int32)) := V_a10
    have ge_E0_a10 : h.size ≤ a10 := Nat.le_trans E0.1 (Nat.le_of_eq g_a10.symm)
    have E0 := Ext.trans E0 N_a10
    have ne_a8 : a8 ≠ a10 := Nat.ne_of_lt (Nat.lt_of_lt_of_le X_a8.lt (Nat.le_of_eq g_a10.symm))
    have n_a10 : n0 ≤ a10 := (Nat.le_trans Z0 ge_E0_a10)
    have X_a8 := X_a8.ext N_a10
    have Fv_a8 := Fv_a8.ext N_a10
    have Fc_a8 := Fc_a8.ext N_a10
    refine Go.dup K (q := 75) rfl d2_74 rfl ?_
    refine Go.iconst K (q := 76) rfl (v := (0 : Int32)) (by decide) d2_75 ?_
    refine Go.aloadN K (q := 77) rfl d2_76 rfl rfl ?_
    refine Go.iconst K (q := 78) rfl (v := (0 : Int32)) (by decide) d2_77 ?_
    refine Go.caload K (q := 79) rfl (V.ext E0) d2_78 ⟨by decide, by decide⟩ (v := (.int c0)) rfl ?_
    refine Go.castore K (q := 80) rfl V_a10 (i := 0) d2_79 ⟨by decide, by decide⟩ rfl (Nat.le_of_ble_eq_true rfl) n_a10 List.mem_cons_self ?_
    intro h12 W13 V_a10
    have E0 := Ext.wr E0 W13 ge_E0_a10
    have X_a8 := X_a8.wr W13
    have Fv_a8 := Fv_a8.other W13 (Or.inl ne_a8)
    have Fc_a8 := Fc_a8.other W13 (Or.inl ne_a8)
    have hp14 : ∀ c ∈ ([(nar .char c0)] : List Int32), ¬ c < 0 ∧ ¬ (255 : Int32) < c := by
      intro c hc
      simp only [List.mem_cons, List.not_mem_nil, or_false] at hc
      rcases hc with rfl
      · exact by rw [own_nc hc0]; exact hc0
    have V_a10 : Arv Z h12 a10 k_a10 .char (1 : Int32) (([(nar .char c0)] : List Int32).map Value.int) (.int (0 : Int32)) := V_a10
    refine Go.newStr K (q := 83) rfl own_words (hw _ (List.mem_of_getElem? (i := 11) rfl)) (hw _ (List.mem_of_getElem? (i := 13) rfl)) (hw _ (List.mem_of_getElem? (i := 14) rfl)) (hw _ (List.mem_of_getElem? (i := 15) rfl)) (cs := [(nar .char c0)]) n_a8 (Nat.le_trans Z0 E0.1) X_a8 Fv_a8 Fc_a8 V_a10 (Sa.ext E0) hz (n := 1) rfl rfl (by decide) (by decide) hp14 d2_80 (List.mem_cons_of_mem _ List.mem_cons_self) (by decide) rfl (W := 1) (Nat.le_of_eq rfl) (by decide) (cells' := 3) (slots' := 6) rfl rfl (by decide) (by decide) ?_
    intro h15 K16 S_a8
    have E0 := Ext.keep E0 K16 (allS ge_E0_a8 all0)
    exact Go.retA K rfl rfl d2_83 (by decide) (by decide) (fun _ q => (List.mem_cons_of_mem _ (List.mem_cons_of_mem _ q))) (⟨a8, _, rfl, E0, S_a8⟩)
  · skip
    refine Go.tswIn K (q := 84) (o := 83) d2_1 (by decide) (by decide) (by decide) (by decide) ?_
    show Go p l e _ s m _ below meth c _ _ _ _ _ _ _ _ _ h 0 0 (mkF m 84 #[.val (.ref ca), .val (.int (Int32.ofNat 2))] [])
    refine Go.new K (q := 87) rfl (hw _ (List.mem_of_getElem? (i := 10) rfl)) (hw _ (List.mem_of_getElem? (i := 11) rfl)) (hw _ (List.mem_of_getElem? (i := 12) rfl)) d2_84 (cells' := 1) (slots' := 4) rfl rfl (by decide) (by decide) ?_
    intro h18 a17 g_a17 N_a17 X_a17 D_a17
    have ge_E0_a17 : h.size ≤ a17 := Nat.le_trans E0.1 (Nat.le_of_eq g_a17.symm)
    have E0 := Ext.trans E0 N_a17
    have Fv_a17 : Fld Z h18 a17 "java/lang/String" "value" "[B" .null := D_a17 (Or.inr (hw _ (List.mem_of_getElem? (i := 38) rfl))) (ty := .array .byte) (by decide)
    have Fc_a17 : Fld Z h18 a17 "java/lang/String" "coder" "B" (.int (0 : Int32)) := D_a17 (Or.inr (hw _ (List.mem_of_getElem? (i := 36) rfl))) (ty := .byte) (by decide)
    have n_a17 : n0 ≤ a17 := (Nat.le_trans Z0 ge_E0_a17)
    refine Go.dup K (q := 88) rfl d2_87 rfl ?_
    refine Go.iconst K (q := 89) rfl (v := (2 : Int32)) (by decide) d2_88 ?_
    refine Go.newarr K (q := 91) rfl (hw _ (List.mem_of_getElem? (i := 0) rfl)) d2_89 (by decide) (cap := 2) (by decide) (by decide) (cells' := 2) (slots' := 6) rfl rfl (by decide) (by decide) ?_
    intro h20 a19 k_a19 g_a19 N_a19 V_a19
    have V_a19 : Arv Z h20 a19 k_a19 .char (2 : Int32) [(.int (0 : Int32)), (.int (0 : Int32))] (.int (0 : Int32)) := V_a19
    have ge_E0_a19 : h.size ≤ a19 := Nat.le_trans E0.1 (Nat.le_of_eq g_a19.symm)
    have E0 := Ext.trans E0 N_a19
    have ne_a17 : a17 ≠ a19 := Nat.ne_of_lt (Nat.lt_of_lt_of_le X_a17.lt (Nat.le_of_eq g_a19.symm))
    have n_a19 : n0 ≤ a19 := (Nat.le_trans Z0 ge_E0_a19)
    have X_a17 := X_a17.ext N_a19
    have Fv_a17 := Fv_a17.ext N_a19
    have Fc_a17 := Fc_a17.ext N_a19
    refine Go.dup K (q := 92) rfl d2_91 rfl ?_
    refine Go.iconst K (q := 93) rfl (v := (0 : Int32)) (by decide) d2_92 ?_
    refine Go.aloadN K (q := 94) rfl d2_93 rfl rfl ?_
    refine Go.iconst K (q := 95) rfl (v := (0 : Int32)) (by decide) d2_94 ?_
    refine Go.caload K (q := 96) rfl (V.ext E0) d2_95 ⟨by decide, by decide⟩ (v := (.int c0)) rfl ?_
    refine Go.castore K (q := 97) rfl V_a19 (i := 0) d2_96 ⟨by decide, by decide⟩ rfl (Nat.le_of_ble_eq_true rfl) n_a19 List.mem_cons_self ?_
    intro h21 W22 V_a19
    have E0 := Ext.wr E0 W22 ge_E0_a19
    have X_a17 := X_a17.wr W22
    have Fv_a17 := Fv_a17.other W22 (Or.inl ne_a17)
    have Fc_a17 := Fc_a17.other W22 (Or.inl ne_a17)
    refine Go.dup K (q := 98) rfl d2_97 rfl ?_
    refine Go.iconst K (q := 99) rfl (v := (1 : Int32)) (by decide) d2_98 ?_
    refine Go.aloadN K (q := 100) rfl d2_99 rfl rfl ?_
    refine Go.iconst K (q := 101) rfl (v := (1 : Int32)) (by decide) d2_100 ?_
    refine Go.caload K (q := 102) rfl (V.ext E0) d2_101 ⟨by decide, by decide⟩ (v := (.int c1)) rfl ?_
    refine Go.castore K (q := 103) rfl V_a19 (i := 1) d2_102 ⟨by decide, by decide⟩ rfl (Nat.le_of_ble_eq_true rfl) n_a19 List.mem_cons_self ?_
    intro h23 W24 V_a19
    have E0 := Ext.wr E0 W24 ge_E0_a19
    have X_a17 := X_a17.wr W24
    have Fv_a17 := Fv_a17.other W24 (Or.inl ne_a17)
    have Fc_a17 := Fc_a17.other W24 (Or.inl ne_a17)
    have hp25 : ∀ c ∈ ([(nar .char c0), (nar .char c1)] : List Int32), ¬ c < 0 ∧ ¬ (255 : Int32) < c := by
      intro c hc
      simp only [List.mem_cons, List.not_mem_nil, or_false] at hc
      rcases hc with rfl | rfl
      · exact by rw [own_nc hc0]; exact hc0
      · exact by rw [own_nc hc1]; exact hc1
    have V_a19 : Arv Z h23 a19 k_a19 .char (2 : Int32) (([(nar .char c0), (nar .char c1)] : List Int32).map Value.int) (.int (0 : Int32)) := V_a19
    refine Go.newStr K (q := 106) rfl own_words (hw _ (List.mem_of_getElem? (i := 11) rfl)) (hw _ (List.mem_of_getElem? (i := 13) rfl)) (hw _ (List.mem_of_getElem? (i := 14) rfl)) (hw _ (List.mem_of_getElem? (i := 15) rfl)) (cs := [(nar .char c0), (nar .char c1)]) n_a17 (Nat.le_trans Z0 E0.1) X_a17 Fv_a17 Fc_a17 V_a19 (Sa.ext E0) hz (n := 2) rfl rfl (by decide) (by decide) hp25 d2_103 (List.mem_cons_of_mem _ List.mem_cons_self) (by decide) rfl (W := 1) (Nat.le_of_eq rfl) (by decide) (cells' := 3) (slots' := 8) rfl rfl (by decide) (by decide) ?_
    intro h26 K27 S_a17
    have E0 := Ext.keep E0 K27 (allS ge_E0_a17 all0)
    exact Go.retA K rfl rfl d2_106 (by decide) (by decide) (fun _ q => (List.mem_cons_of_mem _ (List.mem_cons_of_mem _ q))) (⟨a17, _, rfl, E0, S_a17⟩)
  · skip
    refine Go.tswIn K (q := 107) (o := 106) d2_1 (by decide) (by decide) (by decide) (by decide) ?_
    show Go p l e _ s m _ below meth c _ _ _ _ _ _ _ _ _ h 0 0 (mkF m 107 #[.val (.ref ca), .val (.int (Int32.ofNat 3))] [])
    refine Go.new K (q := 110) rfl (hw _ (List.mem_of_getElem? (i := 10) rfl)) (hw _ (List.mem_of_getElem? (i := 11) rfl)) (hw _ (List.mem_of_getElem? (i := 12) rfl)) d2_107 (cells' := 1) (slots' := 4) rfl rfl (by decide) (by decide) ?_
    intro h29 a28 g_a28 N_a28 X_a28 D_a28
    have ge_E0_a28 : h.size ≤ a28 := Nat.le_trans E0.1 (Nat.le_of_eq g_a28.symm)
    have E0 := Ext.trans E0 N_a28
    have Fv_a28 : Fld Z h29 a28 "java/lang/String" "value" "[B" .null := D_a28 (Or.inr (hw _ (List.mem_of_getElem? (i := 38) rfl))) (ty := .array .byte) (by decide)
    have Fc_a28 : Fld Z h29 a28 "java/lang/String" "coder" "B" (.int (0 : Int32)) := D_a28 (Or.inr (hw _ (List.mem_of_getElem? (i := 36) rfl))) (ty := .byte) (by decide)
    have n_a28 : n0 ≤ a28 := (Nat.le_trans Z0 ge_E0_a28)
    refine Go.dup K (q := 111) rfl d2_110 rfl ?_
    refine Go.iconst K (q := 112) rfl (v := (3 : Int32)) (by decide) d2_111 ?_
    refine Go.newarr K (q := 114) rfl (hw _ (List.mem_of_getElem? (i := 0) rfl)) d2_112 (by decide) (cap := 3) (by decide) (by decide) (cells' := 2) (slots' := 7) rfl rfl (by decide) (by decide) ?_
    intro h31 a30 k_a30 g_a30 N_a30 V_a30
    have V_a30 : Arv Z h31 a30 k_a30 .char (3 : Int32) [(.int (0 : Int32)), (.int (0 : Int32)), (.int (0 : Int32))] (.int (0 : Int32)) := V_a30
    have ge_E0_a30 : h.size ≤ a30 := Nat.le_trans E0.1 (Nat.le_of_eq g_a30.symm)
    have E0 := Ext.trans E0 N_a30
    have ne_a28 : a28 ≠ a30 := Nat.ne_of_lt (Nat.lt_of_lt_of_le X_a28.lt (Nat.le_of_eq g_a30.symm))
    have n_a30 : n0 ≤ a30 := (Nat.le_trans Z0 ge_E0_a30)
    have X_a28 := X_a28.ext N_a30
    have Fv_a28 := Fv_a28.ext N_a30
    have Fc_a28 := Fc_a28.ext N_a30
    refine Go.dup K (q := 115) rfl d2_114 rfl ?_
    refine Go.iconst K (q := 116) rfl (v := (0 : Int32)) (by decide) d2_115 ?_
    refine Go.aloadN K (q := 117) rfl d2_116 rfl rfl ?_
    refine Go.iconst K (q := 118) rfl (v := (0 : Int32)) (by decide) d2_117 ?_
    refine Go.caload K (q := 119) rfl (V.ext E0) d2_118 ⟨by decide, by decide⟩ (v := (.int c0)) rfl ?_
    refine Go.castore K (q := 120) rfl V_a30 (i := 0) d2_119 ⟨by decide, by decide⟩ rfl (Nat.le_of_ble_eq_true rfl) n_a30 List.mem_cons_self ?_
    intro h32 W33 V_a30
    have E0 := Ext.wr E0 W33 ge_E0_a30
    have X_a28 := X_a28.wr W33
    have Fv_a28 := Fv_a28.other W33 (Or.inl ne_a28)
    have Fc_a28 := Fc_a28.other W33 (Or.inl ne_a28)
    refine Go.dup K (q := 121) rfl d2_120 rfl ?_
    refine Go.iconst K (q := 122) rfl (v := (1 : Int32)) (by decide) d2_121 ?_
    refine Go.aloadN K (q := 123) rfl d2_122 rfl rfl ?_
    refine Go.iconst K (q := 124) rfl (v := (1 : Int32)) (by decide) d2_123 ?_
    refine Go.caload K (q := 125) rfl (V.ext E0) d2_124 ⟨by decide, by decide⟩ (v := (.int c1)) rfl ?_
    refine Go.castore K (q := 126) rfl V_a30 (i := 1) d2_125 ⟨by decide, by decide⟩ rfl (Nat.le_of_ble_eq_true rfl) n_a30 List.mem_cons_self ?_
    intro h34 W35 V_a30
    have E0 := Ext.wr E0 W35 ge_E0_a30
    have X_a28 := X_a28.wr W35
    have Fv_a28 := Fv_a28.other W35 (Or.inl ne_a28)
    have Fc_a28 := Fc_a28.other W35 (Or.inl ne_a28)
    refine Go.dup K (q := 127) rfl d2_126 rfl ?_
    refine Go.iconst K (q := 128) rfl (v := (2 : Int32)) (by decide) d2_127 ?_
    refine Go.aloadN K (q := 129) rfl d2_128 rfl rfl ?_
    refine Go.iconst K (q := 130) rfl (v := (2 : Int32)) (by decide) d2_129 ?_
    refine Go.caload K (q := 131) rfl (V.ext E0) d2_130 ⟨by decide, by decide⟩ (v := (.int c2)) rfl ?_
    refine Go.castore K (q := 132) rfl V_a30 (i := 2) d2_131 ⟨by decide, by decide⟩ rfl (Nat.le_of_ble_eq_true rfl) n_a30 List.mem_cons_self ?_
    intro h36 W37 V_a30
    have E0 := Ext.wr E0 W37 ge_E0_a30
    have X_a28 := X_a28.wr W37
    have Fv_a28 := Fv_a28.other W37 (Or.inl ne_a28)
    have Fc_a28 := Fc_a28.other W37 (Or.inl ne_a28)
    have hp38 : ∀ c ∈ ([(nar .char c0), (nar .char c1), (nar .char c2)] : List Int32), ¬ c < 0 ∧ ¬ (255 : Int32) < c := by
      intro c hc
      simp only [List.mem_cons, List.not_mem_nil, or_false] at hc
      rcases hc with rfl | rfl | rfl
      · exact by rw [own_nc hc0]; exact hc0
      · exact by rw [own_nc hc1]; exact hc1
      · exact by rw [own_nc hc2]; exact hc2
    have V_a30 : Arv Z h36 a30 k_a30 .char (3 : Int32) (([(nar .char c0), (nar .char c1), (nar .char c2)] : List Int32).map Value.int) (.int (0 : Int32)) := V_a30
    refine Go.newStr K (q := 135) rfl own_words (hw _ (List.mem_of_getElem? (i := 11) rfl)) (hw _ (List.mem_of_getElem? (i := 13) rfl)) (hw _ (List.mem_of_getElem? (i := 14) rfl)) (hw _ (List.mem_of_getElem? (i := 15) rfl)) (cs := [(nar .char c0), (nar .char c1), (nar .char c2)]) n_a28 (Nat.le_trans Z0 E0.1) X_a28 Fv_a28 Fc_a28 V_a30 (Sa.ext E0) hz (n := 3) rfl rfl (by decide) (by decide) hp38 d2_132 (List.mem_cons_of_mem _ List.mem_cons_self) (by decide) rfl (W := 1) (Nat.le_of_eq rfl) (by decide) (cells' := 3) (slots' := 10) rfl rfl (by decide) (by decide) ?_
    intro h39 K40 S_a28
    have E0 := Ext.keep E0 K40 (allS ge_E0_a28 all0)
    exact Go.retA K rfl rfl d2_135 (by decide) (by decide) (fun _ q => (List.mem_cons_of_mem _ (List.mem_cons_of_mem _ q))) (⟨a28, _, rfl, E0, S_a28⟩)
  · skip
    refine Go.tswIn K (q := 136) (o := 135) d2_1 (by decide) (by decide) (by decide) (by decide) ?_
    show Go p l e _ s m _ below meth c _ _ _ _ _ _ _ _ _ h 0 0 (mkF m 136 #[.val (.ref ca), .val (.int (Int32.ofNat 4))] [])
    refine Go.new K (q := 139) rfl (hw _ (List.mem_of_getElem? (i := 10) rfl)) (hw _ (List.mem_of_getElem? (i := 11) rfl)) (hw _ (List.mem_of_getElem? (i := 12) rfl)) d2_136 (cells' := 1) (slots' := 4) rfl rfl (by decide) (by decide) ?_
    intro h42 a41 g_a41 N_a41 X_a41 D_a41
    have ge_E0_a41 : h.size ≤ a41 := Nat.le_trans E0.1 (Nat.le_of_eq g_a41.symm)
    have E0 := Ext.trans E0 N_a41
    have Fv_a41 : Fld Z h42 a41 "java/lang/String" "value" "[B" .null := D_a41 (Or.inr (hw _ (List.mem_of_getElem? (i := 38) rfl))) (ty := .array .byte) (by decide)
    have Fc_a41 : Fld Z h42 a41 "java/lang/String" "coder" "B" (.int (0 : Int32)) := D_a41 (Or.inr (hw _ (List.mem_of_getElem? (i := 36) rfl))) (ty := .byte) (by decide)
    have n_a41 : n0 ≤ a41 := (Nat.le_trans Z0 ge_E0_a41)
    refine Go.dup K (q := 140) rfl d2_139 rfl ?_
    refine Go.iconst K (q := 141) rfl (v := (4 : Int32)) (by decide) d2_140 ?_
    refine Go.newarr K (q := 143) rfl (hw _ (List.mem_of_getElem? (i := 0) rfl)) d2_141 (by decide) (cap := 4) (by decide) (by decide) (cells' := 2) (slots' := 8) rfl rfl (by decide) (by decide) ?_
    intro h44 a43 k_a43 g_a43 N_a43 V_a43
    have V_a43 : Arv Z h44 a43 k_a43 .char (4 : Int32) [(.int (0 : Int32)), (.int (0 : Int32)), (.int (0 : Int32)), (.int (0 : Int32))] (.int (0 : Int32)) := V_a43
    have ge_E0_a43 : h.size ≤ a43 := Nat.le_trans E0.1 (Nat.le_of_eq g_a43.symm)
    have E0 := Ext.trans E0 N_a43
    have ne_a41 : a41 ≠ a43 := Nat.ne_of_lt (Nat.lt_of_lt_of_le X_a41.lt (Nat.le_of_eq g_a43.symm))
    have n_a43 : n0 ≤ a43 := (Nat.le_trans Z0 ge_E0_a43)
    have X_a41 := X_a41.ext N_a43
    have Fv_a41 := Fv_a41.ext N_a43
    have Fc_a41 := Fc_a41.ext N_a43
    refine Go.dup K (q := 144) rfl d2_143 rfl ?_
    refine Go.iconst K (q := 145) rfl (v := (0 : Int32)) (by decide) d2_144 ?_
    refine Go.aloadN K (q := 146) rfl d2_145 rfl rfl ?_
    refine Go.iconst K (q := 147) rfl (v := (0 : Int32)) (by decide) d2_146 ?_
    refine Go.caload K (q := 148) rfl (V.ext E0) d2_147 ⟨by decide, by decide⟩ (v := (.int c0)) rfl ?_
    refine Go.castore K (q := 149) rfl V_a43 (i := 0) d2_148 ⟨by decide, by decide⟩ rfl (Nat.le_of_ble_eq_true rfl) n_a43 List.mem_cons_self ?_
    intro h45 W46 V_a43
    have E0 := Ext.wr E0 W46 ge_E0_a43
    have X_a41 := X_a41.wr W46
    have Fv_a41 := Fv_a41.other W46 (Or.inl ne_a41)
    have Fc_a41 := Fc_a41.other W46 (Or.inl ne_a41)
    refine Go.dup K (q := 150) rfl d2_149 rfl ?_
    refine Go.iconst K (q := 151) rfl (v := (1 : Int32)) (by decide) d2_150 ?_
    refine Go.aloadN K (q := 152) rfl d2_151 rfl rfl ?_
    refine Go.iconst K (q := 153) rfl (v := (1 : Int32)) (by decide) d2_152 ?_
    refine Go.caload K (q := 154) rfl (V.ext E0) d2_153 ⟨by decide, by decide⟩ (v := (.int c1)) rfl ?_
    refine Go.castore K (q := 155) rfl V_a43 (i := 1) d2_154 ⟨by decide, by decide⟩ rfl (Nat.le_of_ble_eq_true rfl) n_a43 List.mem_cons_self ?_
    intro h47 W48 V_a43
    have E0 := Ext.wr E0 W48 ge_E0_a43
    have X_a41 := X_a41.wr W48
    have Fv_a41 := Fv_a41.other W48 (Or.inl ne_a41)
    have Fc_a41 := Fc_a41.other W48 (Or.inl ne_a41)
    refine Go.dup K (q := 156) rfl d2_155 rfl ?_
    refine Go.iconst K (q := 157) rfl (v := (2 : Int32)) (by decide) d2_156 ?_
    refine Go.aloadN K (q := 158) rfl d2_157 rfl rfl ?_
    refine Go.iconst K (q := 159) rfl (v := (2 : Int32)) (by decide) d2_158 ?_
    refine Go.caload K (q := 160) rfl (V.ext E0) d2_159 ⟨by decide, by decide⟩ (v := (.int c2)) rfl ?_
    refine Go.castore K (q := 161) rfl V_a43 (i := 2) d2_160 ⟨by decide, by decide⟩ rfl (Nat.le_of_ble_eq_true rfl) n_a43 List.mem_cons_self ?_
    intro h49 W50 V_a43
    have E0 := Ext.wr E0 W50 ge_E0_a43
    have X_a41 := X_a41.wr W50
    have Fv_a41 := Fv_a41.other W50 (Or.inl ne_a41)
    have Fc_a41 := Fc_a41.other W50 (Or.inl ne_a41)
    refine Go.dup K (q := 162) rfl d2_161 rfl ?_
    refine Go.iconst K (q := 163) rfl (v := (3 : Int32)) (by decide) d2_162 ?_
    refine Go.aloadN K (q := 164) rfl d2_163 rfl rfl ?_
    refine Go.iconst K (q := 165) rfl (v := (3 : Int32)) (by decide) d2_164 ?_
    refine Go.caload K (q := 166) rfl (V.ext E0) d2_165 ⟨by decide, by decide⟩ (v := (.int c3)) rfl ?_
    refine Go.castore K (q := 167) rfl V_a43 (i := 3) d2_166 ⟨by decide, by decide⟩ rfl (Nat.le_of_ble_eq_true rfl) n_a43 List.mem_cons_self ?_
    intro h51 W52 V_a43
    have E0 := Ext.wr E0 W52 ge_E0_a43
    have X_a41 := X_a41.wr W52
    have Fv_a41 := Fv_a41.other W52 (Or.inl ne_a41)
    have Fc_a41 := Fc_a41.other W52 (Or.inl ne_a41)
    have hp53 : ∀ c ∈ ([(nar .char c0), (nar .char c1), (nar .char c2), (nar .char c3)] : List Int32), ¬ c < 0 ∧ ¬ (255 : Int32) < c := by
      intro c hc
      simp only [List.mem_cons, List.not_mem_nil, or_false] at hc
      rcases hc with rfl | rfl | rfl | rfl
      · exact by rw [own_nc hc0]; exact hc0
      · exact by rw [own_nc hc1]; exact hc1
      · exact by rw [own_nc hc2]; exact hc2
      · exact by rw [own_nc hc3]; exact hc3
    have V_a43 : Arv Z h51 a43 k_a43 .char (4 : Int32) (([(nar .char c0), (nar .char c1), (nar .char c2), (nar .char c3)] : List Int32).map Value.int) (.int (0 : Int32)) := V_a43
    refine Go.newStr K (q := 170) rfl own_words (hw _ (List.mem_of_getElem? (i := 11) rfl)) (hw _ (List.mem_of_getElem? (i := 13) rfl)) (hw _ (List.mem_of_getElem? (i := 14) rfl)) (hw _ (List.mem_of_getElem? (i := 15) rfl)) (cs := [(nar .char c0), (nar .char c1), (nar .char c2), (nar .char c3)]) n_a41 (Nat.le_trans Z0 E0.1) X_a41 Fv_a41 Fc_a41 V_a43 (Sa.ext E0) hz (n := 4) rfl rfl (by decide) (by decide) hp53 d2_167 (List.mem_cons_of_mem _ List.mem_cons_self) (by decide) rfl (W := 1) (Nat.le_of_eq rfl) (by decide) (cells' := 3) (slots' := 12) rfl rfl (by decide) (by decide) ?_
    intro h54 K55 S_a41
    have E0 := Ext.keep E0 K55 (allS ge_E0_a41 all0)
    exact Go.retA K rfl rfl d2_170 (by decide) (by decide) (fun _ q => (List.mem_cons_of_mem _ (List.mem_cons_of_mem _ q))) (⟨a41, _, rfl, E0, S_a41⟩)
  · skip
    refine Go.tswIn K (q := 171) (o := 170) d2_1 (by decide) (by decide) (by decide) (by decide) ?_
    show Go p l e _ s m _ below meth c _ _ _ _ _ _ _ _ _ h 0 0 (mkF m 171 #[.val (.ref ca), .val (.int (Int32.ofNat 5))] [])
    refine Go.new K (q := 174) rfl (hw _ (List.mem_of_getElem? (i := 10) rfl)) (hw _ (List.mem_of_getElem? (i := 11) rfl)) (hw _ (List.mem_of_getElem? (i := 12) rfl)) d2_171 (cells' := 1) (slots' := 4) rfl rfl (by decide) (by decide) ?_
    intro h57 a56 g_a56 N_a56 X_a56 D_a56
    have ge_E0_a56 : h.size ≤ a56 := Nat.le_trans E0.1 (Nat.le_of_eq g_a56.symm)
    have E0 := Ext.trans E0 N_a56
    have Fv_a56 : Fld Z h57 a56 "java/lang/String" "value" "[B" .null := D_a56 (Or.inr (hw _ (List.mem_of_getElem? (i := 38) rfl))) (ty := .array .byte) (by decide)
    have Fc_a56 : Fld Z h57 a56 "java/lang/String" "coder" "B" (.int (0 : Int32)) := D_a56 (Or.inr (hw _ (List.mem_of_getElem? (i := 36) rfl))) (ty := .byte) (by decide)
    have n_a56 : n0 ≤ a56 := (Nat.le_trans Z0 ge_E0_a56)
    refine Go.dup K (q := 175) rfl d2_174 rfl ?_
    refine Go.iconst K (q := 176) rfl (v := (5 : Int32)) (by decide) d2_175 ?_
    refine Go.newarr K (q := 178) rfl (hw _ (List.mem_of_getElem? (i := 0) rfl)) d2_176 (by decide) (cap := 5) (by decide) (by decide) (cells' := 2) (slots' := 9) rfl rfl (by decide) (by decide) ?_
    intro h59 a58 k_a58 g_a58 N_a58 V_a58
    have V_a58 : Arv Z h59 a58 k_a58 .char (5 : Int32) [(.int (0 : Int32)), (.int (0 : Int32)), (.int (0 : Int32)), (.int (0 : Int32)), (.int (0 : Int32))] (.int (0 : Int32)) := V_a58
    have ge_E0_a58 : h.size ≤ a58 := Nat.le_trans E0.1 (Nat.le_of_eq g_a58.symm)
    have E0 := Ext.trans E0 N_a58
    have ne_a56 : a56 ≠ a58 := Nat.ne_of_lt (Nat.lt_of_lt_of_le X_a56.lt (Nat.le_of_eq g_a58.symm))
    have n_a58 : n0 ≤ a58 := (Nat.le_trans Z0 ge_E0_a58)
    have X_a56 := X_a56.ext N_a58
    have Fv_a56 := Fv_a56.ext N_a58
    have Fc_a56 := Fc_a56.ext N_a58
    refine Go.dup K (q := 179) rfl d2_178 rfl ?_
    refine Go.iconst K (q := 180) rfl (v := (0 : Int32)) (by decide) d2_179 ?_
    refine Go.aloadN K (q := 181) rfl d2_180 rfl rfl ?_
    refine Go.iconst K (q := 182) rfl (v := (0 : Int32)) (by decide) d2_181 ?_
    refine Go.caload K (q := 183) rfl (V.ext E0) d2_182 ⟨by decide, by decide⟩ (v := (.int c0)) rfl ?_
    refine Go.castore K (q := 184) rfl V_a58 (i := 0) d2_183 ⟨by decide, by decide⟩ rfl (Nat.le_of_ble_eq_true rfl) n_a58 List.mem_cons_self ?_
    intro h60 W61 V_a58
    have E0 := Ext.wr E0 W61 ge_E0_a58
    have X_a56 := X_a56.wr W61
    have Fv_a56 := Fv_a56.other W61 (Or.inl ne_a56)
    have Fc_a56 := Fc_a56.other W61 (Or.inl ne_a56)
    refine Go.dup K (q := 185) rfl d2_184 rfl ?_
    refine Go.iconst K (q := 186) rfl (v := (1 : Int32)) (by decide) d2_185 ?_
    refine Go.aloadN K (q := 187) rfl d2_186 rfl rfl ?_
    refine Go.iconst K (q := 188) rfl (v := (1 : Int32)) (by decide) d2_187 ?_
    refine Go.caload K (q := 189) rfl (V.ext E0) d2_188 ⟨by decide, by decide⟩ (v := (.int c1)) rfl ?_
    refine Go.castore K (q := 190) rfl V_a58 (i := 1) d2_189 ⟨by decide, by decide⟩ rfl (Nat.le_of_ble_eq_true rfl) n_a58 List.mem_cons_self ?_
    intro h62 W63 V_a58
    have E0 := Ext.wr E0 W63 ge_E0_a58
    have X_a56 := X_a56.wr W63
    have Fv_a56 := Fv_a56.other W63 (Or.inl ne_a56)
    have Fc_a56 := Fc_a56.other W63 (Or.inl ne_a56)
    refine Go.dup K (q := 191) rfl d2_190 rfl ?_
    refine Go.iconst K (q := 192) rfl (v := (2 : Int32)) (by decide) d2_191 ?_
    refine Go.aloadN K (q := 193) rfl d2_192 rfl rfl ?_
    refine Go.iconst K (q := 194) rfl (v := (2 : Int32)) (by decide) d2_193 ?_
    refine Go.caload K (q := 195) rfl (V.ext E0) d2_194 ⟨by decide, by decide⟩ (v := (.int c2)) rfl ?_
    refine Go.castore K (q := 196) rfl V_a58 (i := 2) d2_195 ⟨by decide, by decide⟩ rfl (Nat.le_of_ble_eq_true rfl) n_a58 List.mem_cons_self ?_
    intro h64 W65 V_a58
    have E0 := Ext.wr E0 W65 ge_E0_a58
    have X_a56 := X_a56.wr W65
    have Fv_a56 := Fv_a56.other W65 (Or.inl ne_a56)
    have Fc_a56 := Fc_a56.other W65 (Or.inl ne_a56)
    refine Go.dup K (q := 197) rfl d2_196 rfl ?_
    refine Go.iconst K (q := 198) rfl (v := (3 : Int32)) (by decide) d2_197 ?_
    refine Go.aloadN K (q := 199) rfl d2_198 rfl rfl ?_
    refine Go.iconst K (q := 200) rfl (v := (3 : Int32)) (by decide) d2_199 ?_
    refine Go.caload K (q := 201) rfl (V.ext E0) d2_200 ⟨by decide, by decide⟩ (v := (.int c3)) rfl ?_
    refine Go.castore K (q := 202) rfl V_a58 (i := 3) d2_201 ⟨by decide, by decide⟩ rfl (Nat.le_of_ble_eq_true rfl) n_a58 List.mem_cons_self ?_
    intro h66 W67 V_a58
    have E0 := Ext.wr E0 W67 ge_E0_a58
    have X_a56 := X_a56.wr W67
    have Fv_a56 := Fv_a56.other W67 (Or.inl ne_a56)
    have Fc_a56 := Fc_a56.other W67 (Or.inl ne_a56)
    refine Go.dup K (q := 203) rfl d2_202 rfl ?_
    refine Go.iconst K (q := 204) rfl (v := (4 : Int32)) (by decide) d2_203 ?_
    refine Go.aloadN K (q := 205) rfl d2_204 rfl rfl ?_
    refine Go.iconst K (q := 206) rfl (v := (4 : Int32)) (by decide) d2_205 ?_
    refine Go.caload K (q := 207) rfl (V.ext E0) d2_206 ⟨by decide, by decide⟩ (v := (.int c4)) rfl ?_
    refine Go.castore K (q := 208) rfl V_a58 (i := 4) d2_207 ⟨by decide, by decide⟩ rfl (Nat.le_of_ble_eq_true rfl) n_a58 List.mem_cons_self ?_
    intro h68 W69 V_a58
    have E0 := Ext.wr E0 W69 ge_E0_a58
    have X_a56 := X_a56.wr W69
    have Fv_a56 := Fv_a56.other W69 (Or.inl ne_a56)
    have Fc_a56 := Fc_a56.other W69 (Or.inl ne_a56)
    have hp70 : ∀ c ∈ ([(nar .char c0), (nar .char c1), (nar .char c2), (nar .char c3), (nar .char c4)] : List Int32), ¬ c < 0 ∧ ¬ (255 : Int32) < c := by
      intro c hc
      simp only [List.mem_cons, List.not_mem_nil, or_false] at hc
      rcases hc with rfl | rfl | rfl | rfl | rfl
      · exact by rw [own_nc hc0]; exact hc0
      · exact by rw [own_nc hc1]; exact hc1
      · exact by rw [own_nc hc2]; exact hc2
      · exact by rw [own_nc hc3]; exact hc3
      · exact by rw [own_nc hc4]; exact hc4
    have V_a58 : Arv Z h68 a58 k_a58 .char (5 : Int32) (([(nar .char c0), (nar .char c1), (nar .char c2), (nar .char c3), (nar .char c4)] : List Int32).map Value.int) (.int (0 : Int32)) := V_a58
    refine Go.newStr K (q := 211) rfl own_words (hw _ (List.mem_of_getElem? (i := 11) rfl)) (hw _ (List.mem_of_getElem? (i := 13) rfl)) (hw _ (List.mem_of_getElem? (i := 14) rfl)) (hw _ (List.mem_of_getElem? (i := 15) rfl)) (cs := [(nar .char c0), (nar .char c1), (nar .char c2), (nar .char c3), (nar .char c4)]) n_a56 (Nat.le_trans Z0 E0.1) X_a56 Fv_a56 Fc_a56 V_a58 (Sa.ext E0) hz (n := 5) rfl rfl (by decide) (by decide) hp70 d2_208 (List.mem_cons_of_mem _ List.mem_cons_self) (by decide) rfl (W := 1) (Nat.le_of_eq rfl) (by decide) (cells' := 3) (slots' := 14) rfl rfl (by decide) (by decide) ?_
    intro h71 K72 S_a56
    have E0 := Ext.keep E0 K72 (allS ge_E0_a56 all0)
    exact Go.retA K rfl rfl d2_211 (by decide) (by decide) (fun _ q => (List.mem_cons_of_mem _ (List.mem_cons_of_mem _ q))) (⟨a56, _, rfl, E0, S_a56⟩)
  · skip
    refine Go.tswIn K (q := 212) (o := 211) d2_1 (by decide) (by decide) (by decide) (by decide) ?_
    show Go p l e _ s m _ below meth c _ _ _ _ _ _ _ _ _ h 0 0 (mkF m 212 #[.val (.ref ca), .val (.int (Int32.ofNat 6))] [])
    refine Go.new K (q := 215) rfl (hw _ (List.mem_of_getElem? (i := 10) rfl)) (hw _ (List.mem_of_getElem? (i := 11) rfl)) (hw _ (List.mem_of_getElem? (i := 12) rfl)) d2_212 (cells' := 1) (slots' := 4) rfl rfl (by decide) (by decide) ?_
    intro h74 a73 g_a73 N_a73 X_a73 D_a73
    have ge_E0_a73 : h.size ≤ a73 := Nat.le_trans E0.1 (Nat.le_of_eq g_a73.symm)
    have E0 := Ext.trans E0 N_a73
    have Fv_a73 : Fld Z h74 a73 "java/lang/String" "value" "[B" .null := D_a73 (Or.inr (hw _ (List.mem_of_getElem? (i := 38) rfl))) (ty := .array .byte) (by decide)
    have Fc_a73 : Fld Z h74 a73 "java/lang/String" "coder" "B" (.int (0 : Int32)) := D_a73 (Or.inr (hw _ (List.mem_of_getElem? (i := 36) rfl))) (ty := .byte) (by decide)
    have n_a73 : n0 ≤ a73 := (Nat.le_trans Z0 ge_E0_a73)
    refine Go.dup K (q := 216) rfl d2_215 rfl ?_
    refine Go.bipush K (q := 218) rfl (v := (6 : Int32)) (by decide) d2_216 ?_
    refine Go.newarr K (q := 220) rfl (hw _ (List.mem_of_getElem? (i := 0) rfl)) d2_218 (by decide) (cap := 6) (by decide) (by decide) (cells' := 2) (slots' := 10) rfl rfl (by decide) (by decide) ?_
    intro h76 a75 k_a75 g_a75 N_a75 V_a75
    have V_a75 : Arv Z h76 a75 k_a75 .char (6 : Int32) [(.int (0 : Int32)), (.int (0 : Int32)), (.int (0 : Int32)), (.int (0 : Int32)), (.int (0 : Int32)), (.int (0 : Int32))] (.int (0 : Int32)) := V_a75
    have ge_E0_a75 : h.size ≤ a75 := Nat.le_trans E0.1 (Nat.le_of_eq g_a75.symm)
    have E0 := Ext.trans E0 N_a75
    have ne_a73 : a73 ≠ a75 := Nat.ne_of_lt (Nat.lt_of_lt_of_le X_a73.lt (Nat.le_of_eq g_a75.symm))
    have n_a75 : n0 ≤ a75 := (Nat.le_trans Z0 ge_E0_a75)
    have X_a73 := X_a73.ext N_a75
    have Fv_a73 := Fv_a73.ext N_a75
    have Fc_a73 := Fc_a73.ext N_a75
    refine Go.dup K (q := 221) rfl d2_220 rfl ?_
    refine Go.iconst K (q := 222) rfl (v := (0 : Int32)) (by decide) d2_221 ?_
    refine Go.aloadN K (q := 223) rfl d2_222 rfl rfl ?_
    refine Go.iconst K (q := 224) rfl (v := (0 : Int32)) (by decide) d2_223 ?_
    refine Go.caload K (q := 225) rfl (V.ext E0) d2_224 ⟨by decide, by decide⟩ (v := (.int c0)) rfl ?_
    refine Go.castore K (q := 226) rfl V_a75 (i := 0) d2_225 ⟨by decide, by decide⟩ rfl (Nat.le_of_ble_eq_true rfl) n_a75 List.mem_cons_self ?_
    intro h77 W78 V_a75
    have E0 := Ext.wr E0 W78 ge_E0_a75
    have X_a73 := X_a73.wr W78
    have Fv_a73 := Fv_a73.other W78 (Or.inl ne_a73)
    have Fc_a73 := Fc_a73.other W78 (Or.inl ne_a73)
    refine Go.dup K (q := 227) rfl d2_226 rfl ?_
    refine Go.iconst K (q := 228) rfl (v := (1 : Int32)) (by decide) d2_227 ?_
    refine Go.aloadN K (q := 229) rfl d2_228 rfl rfl ?_
    refine Go.iconst K (q := 230) rfl (v := (1 : Int32)) (by decide) d2_229 ?_
    refine Go.caload K (q := 231) rfl (V.ext E0) d2_230 ⟨by decide, by decide⟩ (v := (.int c1)) rfl ?_
    refine Go.castore K (q := 232) rfl V_a75 (i := 1) d2_231 ⟨by decide, by decide⟩ rfl (Nat.le_of_ble_eq_true rfl) n_a75 List.mem_cons_self ?_
    intro h79 W80 V_a75
    have E0 := Ext.wr E0 W80 ge_E0_a75
    have X_a73 := X_a73.wr W80
    have Fv_a73 := Fv_a73.other W80 (Or.inl ne_a73)
    have Fc_a73 := Fc_a73.other W80 (Or.inl ne_a73)
    refine Go.dup K (q := 233) rfl d2_232 rfl ?_
    refine Go.iconst K (q := 234) rfl (v := (2 : Int32)) (by decide) d2_233 ?_
    refine Go.aloadN K (q := 235) rfl d2_234 rfl rfl ?_
    refine Go.iconst K (q := 236) rfl (v := (2 : Int32)) (by decide) d2_235 ?_
    refine Go.caload K (q := 237) rfl (V.ext E0) d2_236 ⟨by decide, by decide⟩ (v := (.int c2)) rfl ?_
    refine Go.castore K (q := 238) rfl V_a75 (i := 2) d2_237 ⟨by decide, by decide⟩ rfl (Nat.le_of_ble_eq_true rfl) n_a75 List.mem_cons_self ?_
    intro h81 W82 V_a75
    have E0 := Ext.wr E0 W82 ge_E0_a75
    have X_a73 := X_a73.wr W82
    have Fv_a73 := Fv_a73.other W82 (Or.inl ne_a73)
    have Fc_a73 := Fc_a73.other W82 (Or.inl ne_a73)
    refine Go.dup K (q := 239) rfl d2_238 rfl ?_
    refine Go.iconst K (q := 240) rfl (v := (3 : Int32)) (by decide) d2_239 ?_
    refine Go.aloadN K (q := 241) rfl d2_240 rfl rfl ?_
    refine Go.iconst K (q := 242) rfl (v := (3 : Int32)) (by decide) d2_241 ?_
    refine Go.caload K (q := 243) rfl (V.ext E0) d2_242 ⟨by decide, by decide⟩ (v := (.int c3)) rfl ?_
    refine Go.castore K (q := 244) rfl V_a75 (i := 3) d2_243 ⟨by decide, by decide⟩ rfl (Nat.le_of_ble_eq_true rfl) n_a75 List.mem_cons_self ?_
    intro h83 W84 V_a75
    have E0 := Ext.wr E0 W84 ge_E0_a75
    have X_a73 := X_a73.wr W84
    have Fv_a73 := Fv_a73.other W84 (Or.inl ne_a73)
    have Fc_a73 := Fc_a73.other W84 (Or.inl ne_a73)
    refine Go.dup K (q := 245) rfl d2_244 rfl ?_
    refine Go.iconst K (q := 246) rfl (v := (4 : Int32)) (by decide) d2_245 ?_
    refine Go.aloadN K (q := 247) rfl d2_246 rfl rfl ?_
    refine Go.iconst K (q := 248) rfl (v := (4 : Int32)) (by decide) d2_247 ?_
    refine Go.caload K (q := 249) rfl (V.ext E0) d2_248 ⟨by decide, by decide⟩ (v := (.int c4)) rfl ?_
    refine Go.castore K (q := 250) rfl V_a75 (i := 4) d2_249 ⟨by decide, by decide⟩ rfl (Nat.le_of_ble_eq_true rfl) n_a75 List.mem_cons_self ?_
    intro h85 W86 V_a75
    have E0 := Ext.wr E0 W86 ge_E0_a75
    have X_a73 := X_a73.wr W86
    have Fv_a73 := Fv_a73.other W86 (Or.inl ne_a73)
    have Fc_a73 := Fc_a73.other W86 (Or.inl ne_a73)
    refine Go.dup K (q := 251) rfl d2_250 rfl ?_
    refine Go.iconst K (q := 252) rfl (v := (5 : Int32)) (by decide) d2_251 ?_
    refine Go.aloadN K (q := 253) rfl d2_252 rfl rfl ?_
    refine Go.iconst K (q := 254) rfl (v := (5 : Int32)) (by decide) d2_253 ?_
    refine Go.caload K (q := 255) rfl (V.ext E0) d2_254 ⟨by decide, by decide⟩ (v := (.int c5)) rfl ?_
    refine Go.castore K (q := 256) rfl V_a75 (i := 5) d2_255 ⟨by decide, by decide⟩ rfl (Nat.le_of_ble_eq_true rfl) n_a75 List.mem_cons_self ?_
    intro h87 W88 V_a75
    have E0 := Ext.wr E0 W88 ge_E0_a75
    have X_a73 := X_a73.wr W88
    have Fv_a73 := Fv_a73.other W88 (Or.inl ne_a73)
    have Fc_a73 := Fc_a73.other W88 (Or.inl ne_a73)
    have hp89 : ∀ c ∈ ([(nar .char c0), (nar .char c1), (nar .char c2), (nar .char c3), (nar .char c4), (nar .char c5)] : List Int32), ¬ c < 0 ∧ ¬ (255 : Int32) < c := by
      intro c hc
      simp only [List.mem_cons, List.not_mem_nil, or_false] at hc
      rcases hc with rfl | rfl | rfl | rfl | rfl | rfl
      · exact by rw [own_nc hc0]; exact hc0
      · exact by rw [own_nc hc1]; exact hc1
      · exact by rw [own_nc hc2]; exact hc2
      · exact by rw [own_nc hc3]; exact hc3
      · exact by rw [own_nc hc4]; exact hc4
      · exact by rw [own_nc hc5]; exact hc5
    have V_a75 : Arv Z h87 a75 k_a75 .char (6 : Int32) (([(nar .char c0), (nar .char c1), (nar .char c2), (nar .char c3), (nar .char c4), (nar .char c5)] : List Int32).map Value.int) (.int (0 : Int32)) := V_a75
    refine Go.newStr K (q := 259) rfl own_words (hw _ (List.mem_of_getElem? (i := 11) rfl)) (hw _ (List.mem_of_getElem? (i := 13) rfl)) (hw _ (List.mem_of_getElem? (i := 14) rfl)) (hw _ (List.mem_of_getElem? (i := 15) rfl)) (cs := [(nar .char c0), (nar .char c1), (nar .char c2), (nar .char c3), (nar .char c4), (nar .char c5)]) n_a73 (Nat.le_trans Z0 E0.1) X_a73 Fv_a73 Fc_a73 V_a75 (Sa.ext E0) hz (n := 6) rfl rfl (by decide) (by decide) hp89 d2_256 (List.mem_cons_of_mem _ List.mem_cons_self) (by decide) rfl (W := 1) (Nat.le_of_eq rfl) (by decide) (cells' := 3) (slots' := 16) rfl rfl (by decide) (by decide) ?_
    intro h90 K91 S_a73
    have E0 := Ext.keep E0 K91 (allS ge_E0_a73 all0)
    exact Go.retA K rfl rfl d2_259 (by decide) (by decide) (fun _ q => (List.mem_cons_of_mem _ (List.mem_cons_of_mem _ q))) (⟨a73, _, rfl, E0, S_a73⟩)
  · skip
    refine Go.tswIn K (q := 260) (o := 259) d2_1 (by decide) (by decide) (by decide) (by decide) ?_
    show Go p l e _ s m _ below meth c _ _ _ _ _ _ _ _ _ h 0 0 (mkF m 260 #[.val (.ref ca), .val (.int (Int32.ofNat 7))] [])
    refine Go.new K (q := 263) rfl (hw _ (List.mem_of_getElem? (i := 10) rfl)) (hw _ (List.mem_of_getElem? (i := 11) rfl)) (hw _ (List.mem_of_getElem? (i := 12) rfl)) d2_260 (cells' := 1) (slots' := 4) rfl rfl (by decide) (by decide) ?_
    intro h93 a92 g_a92 N_a92 X_a92 D_a92
    have ge_E0_a92 : h.size ≤ a92 := Nat.le_trans E0.1 (Nat.le_of_eq g_a92.symm)
    have E0 := Ext.trans E0 N_a92
    have Fv_a92 : Fld Z h93 a92 "java/lang/String" "value" "[B" .null := D_a92 (Or.inr (hw _ (List.mem_of_getElem? (i := 38) rfl))) (ty := .array .byte) (by decide)
    have Fc_a92 : Fld Z h93 a92 "java/lang/String" "coder" "B" (.int (0 : Int32)) := D_a92 (Or.inr (hw _ (List.mem_of_getElem? (i := 36) rfl))) (ty := .byte) (by decide)
    have n_a92 : n0 ≤ a92 := (Nat.le_trans Z0 ge_E0_a92)
    refine Go.dup K (q := 264) rfl d2_263 rfl ?_
    refine Go.bipush K (q := 266) rfl (v := (7 : Int32)) (by decide) d2_264 ?_
    refine Go.newarr K (q := 268) rfl (hw _ (List.mem_of_getElem? (i := 0) rfl)) d2_266 (by decide) (cap := 7) (by decide) (by decide) (cells' := 2) (slots' := 11) rfl rfl (by decide) (by decide) ?_
    intro h95 a94 k_a94 g_a94 N_a94 V_a94
    have V_a94 : Arv Z h95 a94 k_a94 .char (7 : Int32) [(.int (0 : Int32)), (.int (0 : Int32)), (.int (0 : Int32)), (.int (0 : Int32)), (.int (0 : Int32)), (.int (0 : Int32)), (.int (0 : Int32))] (.int (0 : Int32)) := V_a94
    have ge_E0_a94 : h.size ≤ a94 := Nat.le_trans E0.1 (Nat.le_of_eq g_a94.symm)
    have E0 := Ext.trans E0 N_a94
    have ne_a92 : a92 ≠ a94 := Nat.ne_of_lt (Nat.lt_of_lt_of_le X_a92.lt (Nat.le_of_eq g_a94.symm))
    have n_a94 : n0 ≤ a94 := (Nat.le_trans Z0 ge_E0_a94)
    have X_a92 := X_a92.ext N_a94
    have Fv_a92 := Fv_a92.ext N_a94
    have Fc_a92 := Fc_a92.ext N_a94
    refine Go.dup K (q := 269) rfl d2_268 rfl ?_
    refine Go.iconst K (q := 270) rfl (v := (0 : Int32)) (by decide) d2_269 ?_
    refine Go.aloadN K (q := 271) rfl d2_270 rfl rfl ?_
    refine Go.iconst K (q := 272) rfl (v := (0 : Int32)) (by decide) d2_271 ?_
    refine Go.caload K (q := 273) rfl (V.ext E0) d2_272 ⟨by decide, by decide⟩ (v := (.int c0)) rfl ?_
    refine Go.castore K (q := 274) rfl V_a94 (i := 0) d2_273 ⟨by decide, by decide⟩ rfl (Nat.le_of_ble_eq_true rfl) n_a94 List.mem_cons_self ?_
    intro h96 W97 V_a94
    have E0 := Ext.wr E0 W97 ge_E0_a94
    have X_a92 := X_a92.wr W97
    have Fv_a92 := Fv_a92.other W97 (Or.inl ne_a92)
    have Fc_a92 := Fc_a92.other W97 (Or.inl ne_a92)
    refine Go.dup K (q := 275) rfl d2_274 rfl ?_
    refine Go.iconst K (q := 276) rfl (v := (1 : Int32)) (by decide) d2_275 ?_
    refine Go.aloadN K (q := 277) rfl d2_276 rfl rfl ?_
    refine Go.iconst K (q := 278) rfl (v := (1 : Int32)) (by decide) d2_277 ?_
    refine Go.caload K (q := 279) rfl (V.ext E0) d2_278 ⟨by decide, by decide⟩ (v := (.int c1)) rfl ?_
    refine Go.castore K (q := 280) rfl V_a94 (i := 1) d2_279 ⟨by decide, by decide⟩ rfl (Nat.le_of_ble_eq_true rfl) n_a94 List.mem_cons_self ?_
    intro h98 W99 V_a94
    have E0 := Ext.wr E0 W99 ge_E0_a94
    have X_a92 := X_a92.wr W99
    have Fv_a92 := Fv_a92.other W99 (Or.inl ne_a92)
    have Fc_a92 := Fc_a92.other W99 (Or.inl ne_a92)
    refine Go.dup K (q := 281) rfl d2_280 rfl ?_
    refine Go.iconst K (q := 282) rfl (v := (2 : Int32)) (by decide) d2_281 ?_
    refine Go.aloadN K (q := 283) rfl d2_282 rfl rfl ?_
    refine Go.iconst K (q := 284) rfl (v := (2 : Int32)) (by decide) d2_283 ?_
    refine Go.caload K (q := 285) rfl (V.ext E0) d2_284 ⟨by decide, by decide⟩ (v := (.int c2)) rfl ?_
    refine Go.castore K (q := 286) rfl V_a94 (i := 2) d2_285 ⟨by decide, by decide⟩ rfl (Nat.le_of_ble_eq_true rfl) n_a94 List.mem_cons_self ?_
    intro h100 W101 V_a94
    have E0 := Ext.wr E0 W101 ge_E0_a94
    have X_a92 := X_a92.wr W101
    have Fv_a92 := Fv_a92.other W101 (Or.inl ne_a92)
    have Fc_a92 := Fc_a92.other W101 (Or.inl ne_a92)
    refine Go.dup K (q := 287) rfl d2_286 rfl ?_
    refine Go.iconst K (q := 288) rfl (v := (3 : Int32)) (by decide) d2_287 ?_
    refine Go.aloadN K (q := 289) rfl d2_288 rfl rfl ?_
    refine Go.iconst K (q := 290) rfl (v := (3 : Int32)) (by decide) d2_289 ?_
    refine Go.caload K (q := 291) rfl (V.ext E0) d2_290 ⟨by decide, by decide⟩ (v := (.int c3)) rfl ?_
    refine Go.castore K (q := 292) rfl V_a94 (i := 3) d2_291 ⟨by decide, by decide⟩ rfl (Nat.le_of_ble_eq_true rfl) n_a94 List.mem_cons_self ?_
    intro h102 W103 V_a94
    have E0 := Ext.wr E0 W103 ge_E0_a94
    have X_a92 := X_a92.wr W103
    have Fv_a92 := Fv_a92.other W103 (Or.inl ne_a92)
    have Fc_a92 := Fc_a92.other W103 (Or.inl ne_a92)
    refine Go.dup K (q := 293) rfl d2_292 rfl ?_
    refine Go.iconst K (q := 294) rfl (v := (4 : Int32)) (by decide) d2_293 ?_
    refine Go.aloadN K (q := 295) rfl d2_294 rfl rfl ?_
    refine Go.iconst K (q := 296) rfl (v := (4 : Int32)) (by decide) d2_295 ?_
    refine Go.caload K (q := 297) rfl (V.ext E0) d2_296 ⟨by decide, by decide⟩ (v := (.int c4)) rfl ?_
    refine Go.castore K (q := 298) rfl V_a94 (i := 4) d2_297 ⟨by decide, by decide⟩ rfl (Nat.le_of_ble_eq_true rfl) n_a94 List.mem_cons_self ?_
    intro h104 W105 V_a94
    have E0 := Ext.wr E0 W105 ge_E0_a94
    have X_a92 := X_a92.wr W105
    have Fv_a92 := Fv_a92.other W105 (Or.inl ne_a92)
    have Fc_a92 := Fc_a92.other W105 (Or.inl ne_a92)
    refine Go.dup K (q := 299) rfl d2_298 rfl ?_
    refine Go.iconst K (q := 300) rfl (v := (5 : Int32)) (by decide) d2_299 ?_
    refine Go.aloadN K (q := 301) rfl d2_300 rfl rfl ?_
    refine Go.iconst K (q := 302) rfl (v := (5 : Int32)) (by decide) d2_301 ?_
    refine Go.caload K (q := 303) rfl (V.ext E0) d2_302 ⟨by decide, by decide⟩ (v := (.int c5)) rfl ?_
    refine Go.castore K (q := 304) rfl V_a94 (i := 5) d2_303 ⟨by decide, by decide⟩ rfl (Nat.le_of_ble_eq_true rfl) n_a94 List.mem_cons_self ?_
    intro h106 W107 V_a94
    have E0 := Ext.wr E0 W107 ge_E0_a94
    have X_a92 := X_a92.wr W107
    have Fv_a92 := Fv_a92.other W107 (Or.inl ne_a92)
    have Fc_a92 := Fc_a92.other W107 (Or.inl ne_a92)
    refine Go.dup K (q := 305) rfl d2_304 rfl ?_
    refine Go.bipush K (q := 307) rfl (v := (6 : Int32)) (by decide) d2_305 ?_
    refine Go.aloadN K (q := 308) rfl d2_307 rfl rfl ?_
    refine Go.bipush K (q := 310) rfl (v := (6 : Int32)) (by decide) d2_308 ?_
    refine Go.caload K (q := 311) rfl (V.ext E0) d2_310 ⟨by decide, by decide⟩ (v := (.int c6)) rfl ?_
    refine Go.castore K (q := 312) rfl V_a94 (i := 6) d2_311 ⟨by decide, by decide⟩ rfl (Nat.le_of_ble_eq_true rfl) n_a94 List.mem_cons_self ?_
    intro h108 W109 V_a94
    have E0 := Ext.wr E0 W109 ge_E0_a94
    have X_a92 := X_a92.wr W109
    have Fv_a92 := Fv_a92.other W109 (Or.inl ne_a92)
    have Fc_a92 := Fc_a92.other W109 (Or.inl ne_a92)
    have hp110 : ∀ c ∈ ([(nar .char c0), (nar .char c1), (nar .char c2), (nar .char c3), (nar .char c4), (nar .char c5), (nar .char c6)] : List Int32), ¬ c < 0 ∧ ¬ (255 : Int32) < c := by
      intro c hc
      simp only [List.mem_cons, List.not_mem_nil, or_false] at hc
      rcases hc with rfl | rfl | rfl | rfl | rfl | rfl | rfl
      · exact by rw [own_nc hc0]; exact hc0
      · exact by rw [own_nc hc1]; exact hc1
      · exact by rw [own_nc hc2]; exact hc2
      · exact by rw [own_nc hc3]; exact hc3
      · exact by rw [own_nc hc4]; exact hc4
      · exact by rw [own_nc hc5]; exact hc5
      · exact by rw [own_nc hc6]; exact hc6
    have V_a94 : Arv Z h108 a94 k_a94 .char (7 : Int32) (([(nar .char c0), (nar .char c1), (nar .char c2), (nar .char c3), (nar .char c4), (nar .char c5), (nar .char c6)] : List Int32).map Value.int) (.int (0 : Int32)) := V_a94
    refine Go.newStr K (q := 315) rfl own_words (hw _ (List.mem_of_getElem? (i := 11) rfl)) (hw _ (List.mem_of_getElem? (i := 13) rfl)) (hw _ (List.mem_of_getElem? (i := 14) rfl)) (hw _ (List.mem_of_getElem? (i := 15) rfl)) (cs := [(nar .char c0), (nar .char c1), (nar .char c2), (nar .char c3), (nar .char c4), (nar .char c5), (nar .char c6)]) n_a92 (Nat.le_trans Z0 E0.1) X_a92 Fv_a92 Fc_a92 V_a94 (Sa.ext E0) hz (n := 7) rfl rfl (by decide) (by decide) hp110 d2_312 (List.mem_cons_of_mem _ List.mem_cons_self) (by decide) rfl (W := 1) (Nat.le_of_eq rfl) (by decide) (cells' := 3) (slots' := 18) rfl rfl (by decide) (by decide) ?_
    intro h111 K112 S_a92
    have E0 := Ext.keep E0 K112 (allS ge_E0_a92 all0)
    exact Go.retA K rfl rfl d2_315 (by decide) (by decide) (fun _ q => (List.mem_cons_of_mem _ (List.mem_cons_of_mem _ q))) (⟨a92, _, rfl, E0, S_a92⟩)
  · skip
    refine Go.tswIn K (q := 316) (o := 315) d2_1 (by decide) (by decide) (by decide) (by decide) ?_
    show Go p l e _ s m _ below meth c _ _ _ _ _ _ _ _ _ h 0 0 (mkF m 316 #[.val (.ref ca), .val (.int (Int32.ofNat 8))] [])
    refine Go.new K (q := 319) rfl (hw _ (List.mem_of_getElem? (i := 10) rfl)) (hw _ (List.mem_of_getElem? (i := 11) rfl)) (hw _ (List.mem_of_getElem? (i := 12) rfl)) d2_316 (cells' := 1) (slots' := 4) rfl rfl (by decide) (by decide) ?_
    intro h114 a113 g_a113 N_a113 X_a113 D_a113
    have ge_E0_a113 : h.size ≤ a113 := Nat.le_trans E0.1 (Nat.le_of_eq g_a113.symm)
    have E0 := Ext.trans E0 N_a113
    have Fv_a113 : Fld Z h114 a113 "java/lang/String" "value" "[B" .null := D_a113 (Or.inr (hw _ (List.mem_of_getElem? (i := 38) rfl))) (ty := .array .byte) (by decide)
    have Fc_a113 : Fld Z h114 a113 "java/lang/String" "coder" "B" (.int (0 : Int32)) := D_a113 (Or.inr (hw _ (List.mem_of_getElem? (i := 36) rfl))) (ty := .byte) (by decide)
    have n_a113 : n0 ≤ a113 := (Nat.le_trans Z0 ge_E0_a113)
    refine Go.dup K (q := 320) rfl d2_319 rfl ?_
    refine Go.bipush K (q := 322) rfl (v := (8 : Int32)) (by decide) d2_320 ?_
    refine Go.newarr K (q := 324) rfl (hw _ (List.mem_of_getElem? (i := 0) rfl)) d2_322 (by decide) (cap := 8) (by decide) (by decide) (cells' := 2) (slots' := 12) rfl rfl (by decide) (by decide) ?_
    intro h116 a115 k_a115 g_a115 N_a115 V_a115
    have V_a115 : Arv Z h116 a115 k_a115 .char (8 : Int32) [(.int (0 : Int32)), (.int (0 : Int32)), (.int (0 : Int32)), (.int (0 : Int32)), (.int (0 : Int32)), (.int (0 : Int32)), (.int (0 : Int32)), (.int (0 : Int32))] (.int (0 : Int32)) := V_a115
    have ge_E0_a115 : h.size ≤ a115 := Nat.le_trans E0.1 (Nat.le_of_eq g_a115.symm)
    have E0 := Ext.trans E0 N_a115
    have ne_a113 : a113 ≠ a115 := Nat.ne_of_lt (Nat.lt_of_lt_of_le X_a113.lt (Nat.le_of_eq g_a115.symm))
    have n_a115 : n0 ≤ a115 := (Nat.le_trans Z0 ge_E0_a115)
    have X_a113 := X_a113.ext N_a115
    have Fv_a113 := Fv_a113.ext N_a115
    have Fc_a113 := Fc_a113.ext N_a115
    refine Go.dup K (q := 325) rfl d2_324 rfl ?_
    refine Go.iconst K (q := 326) rfl (v := (0 : Int32)) (by decide) d2_325 ?_
    refine Go.aloadN K (q := 327) rfl d2_326 rfl rfl ?_
    refine Go.iconst K (q := 328) rfl (v := (0 : Int32)) (by decide) d2_327 ?_
    refine Go.caload K (q := 329) rfl (V.ext E0) d2_328 ⟨by decide, by decide⟩ (v := (.int c0)) rfl ?_
    refine Go.castore K (q := 330) rfl V_a115 (i := 0) d2_329 ⟨by decide, by decide⟩ rfl (Nat.le_of_ble_eq_true rfl) n_a115 List.mem_cons_self ?_
    intro h117 W118 V_a115
    have E0 := Ext.wr E0 W118 ge_E0_a115
    have X_a113 := X_a113.wr W118
    have Fv_a113 := Fv_a113.other W118 (Or.inl ne_a113)
    have Fc_a113 := Fc_a113.other W118 (Or.inl ne_a113)
    refine Go.dup K (q := 331) rfl d2_330 rfl ?_
    refine Go.iconst K (q := 332) rfl (v := (1 : Int32)) (by decide) d2_331 ?_
    refine Go.aloadN K (q := 333) rfl d2_332 rfl rfl ?_
    refine Go.iconst K (q := 334) rfl (v := (1 : Int32)) (by decide) d2_333 ?_
    refine Go.caload K (q := 335) rfl (V.ext E0) d2_334 ⟨by decide, by decide⟩ (v := (.int c1)) rfl ?_
    refine Go.castore K (q := 336) rfl V_a115 (i := 1) d2_335 ⟨by decide, by decide⟩ rfl (Nat.le_of_ble_eq_true rfl) n_a115 List.mem_cons_self ?_
    intro h119 W120 V_a115
    have E0 := Ext.wr E0 W120 ge_E0_a115
    have X_a113 := X_a113.wr W120
    have Fv_a113 := Fv_a113.other W120 (Or.inl ne_a113)
    have Fc_a113 := Fc_a113.other W120 (Or.inl ne_a113)
    refine Go.dup K (q := 337) rfl d2_336 rfl ?_
    refine Go.iconst K (q := 338) rfl (v := (2 : Int32)) (by decide) d2_337 ?_
    refine Go.aloadN K (q := 339) rfl d2_338 rfl rfl ?_
    refine Go.iconst K (q := 340) rfl (v := (2 : Int32)) (by decide) d2_339 ?_
    refine Go.caload K (q := 341) rfl (V.ext E0) d2_340 ⟨by decide, by decide⟩ (v := (.int c2)) rfl ?_
    refine Go.castore K (q := 342) rfl V_a115 (i := 2) d2_341 ⟨by decide, by decide⟩ rfl (Nat.le_of_ble_eq_true rfl) n_a115 List.mem_cons_self ?_
    intro h121 W122 V_a115
    have E0 := Ext.wr E0 W122 ge_E0_a115
    have X_a113 := X_a113.wr W122
    have Fv_a113 := Fv_a113.other W122 (Or.inl ne_a113)
    have Fc_a113 := Fc_a113.other W122 (Or.inl ne_a113)
    refine Go.dup K (q := 343) rfl d2_342 rfl ?_
    refine Go.iconst K (q := 344) rfl (v := (3 : Int32)) (by decide) d2_343 ?_
    refine Go.aloadN K (q := 345) rfl d2_344 rfl rfl ?_
    refine Go.iconst K (q := 346) rfl (v := (3 : Int32)) (by decide) d2_345 ?_
    refine Go.caload K (q := 347) rfl (V.ext E0) d2_346 ⟨by decide, by decide⟩ (v := (.int c3)) rfl ?_
    refine Go.castore K (q := 348) rfl V_a115 (i := 3) d2_347 ⟨by decide, by decide⟩ rfl (Nat.le_of_ble_eq_true rfl) n_a115 List.mem_cons_self ?_
    intro h123 W124 V_a115
    have E0 := Ext.wr E0 W124 ge_E0_a115
    have X_a113 := X_a113.wr W124
    have Fv_a113 := Fv_a113.other W124 (Or.inl ne_a113)
    have Fc_a113 := Fc_a113.other W124 (Or.inl ne_a113)
    refine Go.dup K (q := 349) rfl d2_348 rfl ?_
    refine Go.iconst K (q := 350) rfl (v := (4 : Int32)) (by decide) d2_349 ?_
    refine Go.aloadN K (q := 351) rfl d2_350 rfl rfl ?_
    refine Go.iconst K (q := 352) rfl (v := (4 : Int32)) (by decide) d2_351 ?_
    refine Go.caload K (q := 353) rfl (V.ext E0) d2_352 ⟨by decide, by decide⟩ (v := (.int c4)) rfl ?_
    refine Go.castore K (q := 354) rfl V_a115 (i := 4) d2_353 ⟨by decide, by decide⟩ rfl (Nat.le_of_ble_eq_true rfl) n_a115 List.mem_cons_self ?_
    intro h125 W126 V_a115
    have E0 := Ext.wr E0 W126 ge_E0_a115
    have X_a113 := X_a113.wr W126
    have Fv_a113 := Fv_a113.other W126 (Or.inl ne_a113)
    have Fc_a113 := Fc_a113.other W126 (Or.inl ne_a113)
    refine Go.dup K (q := 355) rfl d2_354 rfl ?_
    refine Go.iconst K (q := 356) rfl (v := (5 : Int32)) (by decide) d2_355 ?_
    refine Go.aloadN K (q := 357) rfl d2_356 rfl rfl ?_
    refine Go.iconst K (q := 358) rfl (v := (5 : Int32)) (by decide) d2_357 ?_
    refine Go.caload K (q := 359) rfl (V.ext E0) d2_358 ⟨by decide, by decide⟩ (v := (.int c5)) rfl ?_
    refine Go.castore K (q := 360) rfl V_a115 (i := 5) d2_359 ⟨by decide, by decide⟩ rfl (Nat.le_of_ble_eq_true rfl) n_a115 List.mem_cons_self ?_
    intro h127 W128 V_a115
    have E0 := Ext.wr E0 W128 ge_E0_a115
    have X_a113 := X_a113.wr W128
    have Fv_a113 := Fv_a113.other W128 (Or.inl ne_a113)
    have Fc_a113 := Fc_a113.other W128 (Or.inl ne_a113)
    refine Go.dup K (q := 361) rfl d2_360 rfl ?_
    refine Go.bipush K (q := 363) rfl (v := (6 : Int32)) (by decide) d2_361 ?_
    refine Go.aloadN K (q := 364) rfl d2_363 rfl rfl ?_
    refine Go.bipush K (q := 366) rfl (v := (6 : Int32)) (by decide) d2_364 ?_
    refine Go.caload K (q := 367) rfl (V.ext E0) d2_366 ⟨by decide, by decide⟩ (v := (.int c6)) rfl ?_
    refine Go.castore K (q := 368) rfl V_a115 (i := 6) d2_367 ⟨by decide, by decide⟩ rfl (Nat.le_of_ble_eq_true rfl) n_a115 List.mem_cons_self ?_
    intro h129 W130 V_a115
    have E0 := Ext.wr E0 W130 ge_E0_a115
    have X_a113 := X_a113.wr W130
    have Fv_a113 := Fv_a113.other W130 (Or.inl ne_a113)
    have Fc_a113 := Fc_a113.other W130 (Or.inl ne_a113)
    refine Go.dup K (q := 369) rfl d2_368 rfl ?_
    refine Go.bipush K (q := 371) rfl (v := (7 : Int32)) (by decide) d2_369 ?_
    refine Go.aloadN K (q := 372) rfl d2_371 rfl rfl ?_
    refine Go.bipush K (q := 374) rfl (v := (7 : Int32)) (by decide) d2_372 ?_
    refine Go.caload K (q := 375) rfl (V.ext E0) d2_374 ⟨by decide, by decide⟩ (v := (.int c7)) rfl ?_
    refine Go.castore K (q := 376) rfl V_a115 (i := 7) d2_375 ⟨by decide, by decide⟩ rfl (Nat.le_of_ble_eq_true rfl) n_a115 List.mem_cons_self ?_
    intro h131 W132 V_a115
    have E0 := Ext.wr E0 W132 ge_E0_a115
    have X_a113 := X_a113.wr W132
    have Fv_a113 := Fv_a113.other W132 (Or.inl ne_a113)
    have Fc_a113 := Fc_a113.other W132 (Or.inl ne_a113)
    have hp133 : ∀ c ∈ ([(nar .char c0), (nar .char c1), (nar .char c2), (nar .char c3), (nar .char c4), (nar .char c5), (nar .char c6), (nar .char c7)] : List Int32), ¬ c < 0 ∧ ¬ (255 : Int32) < c := by
      intro c hc
      simp only [List.mem_cons, List.not_mem_nil, or_false] at hc
      rcases hc with rfl | rfl | rfl | rfl | rfl | rfl | rfl | rfl
      · exact by rw [own_nc hc0]; exact hc0
      · exact by rw [own_nc hc1]; exact hc1
      · exact by rw [own_nc hc2]; exact hc2
      · exact by rw [own_nc hc3]; exact hc3
      · exact by rw [own_nc hc4]; exact hc4
      · exact by rw [own_nc hc5]; exact hc5
      · exact by rw [own_nc hc6]; exact hc6
      · exact by rw [own_nc hc7]; exact hc7
    have V_a115 : Arv Z h131 a115 k_a115 .char (8 : Int32) (([(nar .char c0), (nar .char c1), (nar .char c2), (nar .char c3), (nar .char c4), (nar .char c5), (nar .char c6), (nar .char c7)] : List Int32).map Value.int) (.int (0 : Int32)) := V_a115
    refine Go.newStr K (q := 379) rfl own_words (hw _ (List.mem_of_getElem? (i := 11) rfl)) (hw _ (List.mem_of_getElem? (i := 13) rfl)) (hw _ (List.mem_of_getElem? (i := 14) rfl)) (hw _ (List.mem_of_getElem? (i := 15) rfl)) (cs := [(nar .char c0), (nar .char c1), (nar .char c2), (nar .char c3), (nar .char c4), (nar .char c5), (nar .char c6), (nar .char c7)]) n_a113 (Nat.le_trans Z0 E0.1) X_a113 Fv_a113 Fc_a113 V_a115 (Sa.ext E0) hz (n := 8) rfl rfl (by decide) (by decide) hp133 d2_376 (List.mem_cons_of_mem _ List.mem_cons_self) (by decide) rfl (W := 1) (Nat.le_of_eq rfl) (by decide) (cells' := 3) (slots' := 20) rfl rfl (by decide) (by decide) ?_
    intro h134 K135 S_a113
    have E0 := Ext.keep E0 K135 (allS ge_E0_a113 all0)
    exact Go.retA K rfl rfl d2_379 (by decide) (by decide) (fun _ q => (List.mem_cons_of_mem _ (List.mem_cons_of_mem _ q))) (⟨a113, _, rfl, E0, S_a113⟩)
  · skip
    refine Go.tswIn K (q := 380) (o := 379) d2_1 (by decide) (by decide) (by decide) (by decide) ?_
    show Go p l e _ s m _ below meth c _ _ _ _ _ _ _ _ _ h 0 0 (mkF m 380 #[.val (.ref ca), .val (.int (Int32.ofNat 9))] [])
    refine Go.new K (q := 383) rfl (hw _ (List.mem_of_getElem? (i := 10) rfl)) (hw _ (List.mem_of_getElem? (i := 11) rfl)) (hw _ (List.mem_of_getElem? (i := 12) rfl)) d2_380 (cells' := 1) (slots' := 4) rfl rfl (by decide) (by decide) ?_
    intro h137 a136 g_a136 N_a136 X_a136 D_a136
    have ge_E0_a136 : h.size ≤ a136 := Nat.le_trans E0.1 (Nat.le_of_eq g_a136.symm)
    have E0 := Ext.trans E0 N_a136
    have Fv_a136 : Fld Z h137 a136 "java/lang/String" "value" "[B" .null := D_a136 (Or.inr (hw _ (List.mem_of_getElem? (i := 38) rfl))) (ty := .array .byte) (by decide)
    have Fc_a136 : Fld Z h137 a136 "java/lang/String" "coder" "B" (.int (0 : Int32)) := D_a136 (Or.inr (hw _ (List.mem_of_getElem? (i := 36) rfl))) (ty := .byte) (by decide)
    have n_a136 : n0 ≤ a136 := (Nat.le_trans Z0 ge_E0_a136)
    refine Go.dup K (q := 384) rfl d2_383 rfl ?_
    refine Go.bipush K (q := 386) rfl (v := (9 : Int32)) (by decide) d2_384 ?_
    refine Go.newarr K (q := 388) rfl (hw _ (List.mem_of_getElem? (i := 0) rfl)) d2_386 (by decide) (cap := 9) (by decide) (by decide) (cells' := 2) (slots' := 13) rfl rfl (by decide) (by decide) ?_
    intro h139 a138 k_a138 g_a138 N_a138 V_a138
    have V_a138 : Arv Z h139 a138 k_a138 .char (9 : Int32) [(.int (0 : Int32)), (.int (0 : Int32)), (.int (0 : Int32)), (.int (0 : Int32)), (.int (0 : Int32)), (.int (0 : Int32)), (.int (0 : Int32)), (.int (0 : Int32)), (.int (0 : Int32))] (.int (0 : Int32)) := V_a138
    have ge_E0_a138 : h.size ≤ a138 := Nat.le_trans E0.1 (Nat.le_of_eq g_a138.symm)
    have E0 := Ext.trans E0 N_a138
    have ne_a136 : a136 ≠ a138 := Nat.ne_of_lt (Nat.lt_of_lt_of_le X_a136.lt (Nat.le_of_eq g_a138.symm))
    have n_a138 : n0 ≤ a138 := (Nat.le_trans Z0 ge_E0_a138)
    have X_a136 := X_a136.ext N_a138
    have Fv_a136 := Fv_a136.ext N_a138
    have Fc_a136 := Fc_a136.ext N_a138
    refine Go.dup K (q := 389) rfl d2_388 rfl ?_
    refine Go.iconst K (q := 390) rfl (v := (0 : Int32)) (by decide) d2_389 ?_
    refine Go.aloadN K (q := 391) rfl d2_390 rfl rfl ?_
    refine Go.iconst K (q := 392) rfl (v := (0 : Int32)) (by decide) d2_391 ?_
    refine Go.caload K (q := 393) rfl (V.ext E0) d2_392 ⟨by decide, by decide⟩ (v := (.int c0)) rfl ?_
    refine Go.castore K (q := 394) rfl V_a138 (i := 0) d2_393 ⟨by decide, by decide⟩ rfl (Nat.le_of_ble_eq_true rfl) n_a138 List.mem_cons_self ?_
    intro h140 W141 V_a138
    have E0 := Ext.wr E0 W141 ge_E0_a138
    have X_a136 := X_a136.wr W141
    have Fv_a136 := Fv_a136.other W141 (Or.inl ne_a136)
    have Fc_a136 := Fc_a136.other W141 (Or.inl ne_a136)
    refine Go.dup K (q := 395) rfl d2_394 rfl ?_
    refine Go.iconst K (q := 396) rfl (v := (1 : Int32)) (by decide) d2_395 ?_
    refine Go.aloadN K (q := 397) rfl d2_396 rfl rfl ?_
    refine Go.iconst K (q := 398) rfl (v := (1 : Int32)) (by decide) d2_397 ?_
    refine Go.caload K (q := 399) rfl (V.ext E0) d2_398 ⟨by decide, by decide⟩ (v := (.int c1)) rfl ?_
    refine Go.castore K (q := 400) rfl V_a138 (i := 1) d2_399 ⟨by decide, by decide⟩ rfl (Nat.le_of_ble_eq_true rfl) n_a138 List.mem_cons_self ?_
    intro h142 W143 V_a138
    have E0 := Ext.wr E0 W143 ge_E0_a138
    have X_a136 := X_a136.wr W143
    have Fv_a136 := Fv_a136.other W143 (Or.inl ne_a136)
    have Fc_a136 := Fc_a136.other W143 (Or.inl ne_a136)
    refine Go.dup K (q := 401) rfl d2_400 rfl ?_
    refine Go.iconst K (q := 402) rfl (v := (2 : Int32)) (by decide) d2_401 ?_
    refine Go.aloadN K (q := 403) rfl d2_402 rfl rfl ?_
    refine Go.iconst K (q := 404) rfl (v := (2 : Int32)) (by decide) d2_403 ?_
    refine Go.caload K (q := 405) rfl (V.ext E0) d2_404 ⟨by decide, by decide⟩ (v := (.int c2)) rfl ?_
    refine Go.castore K (q := 406) rfl V_a138 (i := 2) d2_405 ⟨by decide, by decide⟩ rfl (Nat.le_of_ble_eq_true rfl) n_a138 List.mem_cons_self ?_
    intro h144 W145 V_a138
    have E0 := Ext.wr E0 W145 ge_E0_a138
    have X_a136 := X_a136.wr W145
    have Fv_a136 := Fv_a136.other W145 (Or.inl ne_a136)
    have Fc_a136 := Fc_a136.other W145 (Or.inl ne_a136)
    refine Go.dup K (q := 407) rfl d2_406 rfl ?_
    refine Go.iconst K (q := 408) rfl (v := (3 : Int32)) (by decide) d2_407 ?_
    refine Go.aloadN K (q := 409) rfl d2_408 rfl rfl ?_
    refine Go.iconst K (q := 410) rfl (v := (3 : Int32)) (by decide) d2_409 ?_
    refine Go.caload K (q := 411) rfl (V.ext E0) d2_410 ⟨by decide, by decide⟩ (v := (.int c3)) rfl ?_
    refine Go.castore K (q := 412) rfl V_a138 (i := 3) d2_411 ⟨by decide, by decide⟩ rfl (Nat.le_of_ble_eq_true rfl) n_a138 List.mem_cons_self ?_
    intro h146 W147 V_a138
    have E0 := Ext.wr E0 W147 ge_E0_a138
    have X_a136 := X_a136.wr W147
    have Fv_a136 := Fv_a136.other W147 (Or.inl ne_a136)
    have Fc_a136 := Fc_a136.other W147 (Or.inl ne_a136)
    refine Go.dup K (q := 413) rfl d2_412 rfl ?_
    refine Go.iconst K (q := 414) rfl (v := (4 : Int32)) (by decide) d2_413 ?_
    refine Go.aloadN K (q := 415) rfl d2_414 rfl rfl ?_
    refine Go.iconst K (q := 416) rfl (v := (4 : Int32)) (by decide) d2_415 ?_
    refine Go.caload K (q := 417) rfl (V.ext E0) d2_416 ⟨by decide, by decide⟩ (v := (.int c4)) rfl ?_
    refine Go.castore K (q := 418) rfl V_a138 (i := 4) d2_417 ⟨by decide, by decide⟩ rfl (Nat.le_of_ble_eq_true rfl) n_a138 List.mem_cons_self ?_
    intro h148 W149 V_a138
    have E0 := Ext.wr E0 W149 ge_E0_a138
    have X_a136 := X_a136.wr W149
    have Fv_a136 := Fv_a136.other W149 (Or.inl ne_a136)
    have Fc_a136 := Fc_a136.other W149 (Or.inl ne_a136)
    refine Go.dup K (q := 419) rfl d2_418 rfl ?_
    refine Go.iconst K (q := 420) rfl (v := (5 : Int32)) (by decide) d2_419 ?_
    refine Go.aloadN K (q := 421) rfl d2_420 rfl rfl ?_
    refine Go.iconst K (q := 422) rfl (v := (5 : Int32)) (by decide) d2_421 ?_
    refine Go.caload K (q := 423) rfl (V.ext E0) d2_422 ⟨by decide, by decide⟩ (v := (.int c5)) rfl ?_
    refine Go.castore K (q := 424) rfl V_a138 (i := 5) d2_423 ⟨by decide, by decide⟩ rfl (Nat.le_of_ble_eq_true rfl) n_a138 List.mem_cons_self ?_
    intro h150 W151 V_a138
    have E0 := Ext.wr E0 W151 ge_E0_a138
    have X_a136 := X_a136.wr W151
    have Fv_a136 := Fv_a136.other W151 (Or.inl ne_a136)
    have Fc_a136 := Fc_a136.other W151 (Or.inl ne_a136)
    refine Go.dup K (q := 425) rfl d2_424 rfl ?_
    refine Go.bipush K (q := 427) rfl (v := (6 : Int32)) (by decide) d2_425 ?_
    refine Go.aloadN K (q := 428) rfl d2_427 rfl rfl ?_
    refine Go.bipush K (q := 430) rfl (v := (6 : Int32)) (by decide) d2_428 ?_
    refine Go.caload K (q := 431) rfl (V.ext E0) d2_430 ⟨by decide, by decide⟩ (v := (.int c6)) rfl ?_
    refine Go.castore K (q := 432) rfl V_a138 (i := 6) d2_431 ⟨by decide, by decide⟩ rfl (Nat.le_of_ble_eq_true rfl) n_a138 List.mem_cons_self ?_
    intro h152 W153 V_a138
    have E0 := Ext.wr E0 W153 ge_E0_a138
    have X_a136 := X_a136.wr W153
    have Fv_a136 := Fv_a136.other W153 (Or.inl ne_a136)
    have Fc_a136 := Fc_a136.other W153 (Or.inl ne_a136)
    refine Go.dup K (q := 433) rfl d2_432 rfl ?_
    refine Go.bipush K (q := 435) rfl (v := (7 : Int32)) (by decide) d2_433 ?_
    refine Go.aloadN K (q := 436) rfl d2_435 rfl rfl ?_
    refine Go.bipush K (q := 438) rfl (v := (7 : Int32)) (by decide) d2_436 ?_
    refine Go.caload K (q := 439) rfl (V.ext E0) d2_438 ⟨by decide, by decide⟩ (v := (.int c7)) rfl ?_
    refine Go.castore K (q := 440) rfl V_a138 (i := 7) d2_439 ⟨by decide, by decide⟩ rfl (Nat.le_of_ble_eq_true rfl) n_a138 List.mem_cons_self ?_
    intro h154 W155 V_a138
    have E0 := Ext.wr E0 W155 ge_E0_a138
    have X_a136 := X_a136.wr W155
    have Fv_a136 := Fv_a136.other W155 (Or.inl ne_a136)
    have Fc_a136 := Fc_a136.other W155 (Or.inl ne_a136)
    refine Go.dup K (q := 441) rfl d2_440 rfl ?_
    refine Go.bipush K (q := 443) rfl (v := (8 : Int32)) (by decide) d2_441 ?_
    refine Go.aloadN K (q := 444) rfl d2_443 rfl rfl ?_
    refine Go.bipush K (q := 446) rfl (v := (8 : Int32)) (by decide) d2_444 ?_
    refine Go.caload K (q := 447) rfl (V.ext E0) d2_446 ⟨by decide, by decide⟩ (v := (.int c8)) rfl ?_
    refine Go.castore K (q := 448) rfl V_a138 (i := 8) d2_447 ⟨by decide, by decide⟩ rfl (Nat.le_of_ble_eq_true rfl) n_a138 List.mem_cons_self ?_
    intro h156 W157 V_a138
    have E0 := Ext.wr E0 W157 ge_E0_a138
    have X_a136 := X_a136.wr W157
    have Fv_a136 := Fv_a136.other W157 (Or.inl ne_a136)
    have Fc_a136 := Fc_a136.other W157 (Or.inl ne_a136)
    have hp158 : ∀ c ∈ ([(nar .char c0), (nar .char c1), (nar .char c2), (nar .char c3), (nar .char c4), (nar .char c5), (nar .char c6), (nar .char c7), (nar .char c8)] : List Int32), ¬ c < 0 ∧ ¬ (255 : Int32) < c := by
      intro c hc
      simp only [List.mem_cons, List.not_mem_nil, or_false] at hc
      rcases hc with rfl | rfl | rfl | rfl | rfl | rfl | rfl | rfl | rfl
      · exact by rw [own_nc hc0]; exact hc0
      · exact by rw [own_nc hc1]; exact hc1
      · exact by rw [own_nc hc2]; exact hc2
      · exact by rw [own_nc hc3]; exact hc3
      · exact by rw [own_nc hc4]; exact hc4
      · exact by rw [own_nc hc5]; exact hc5
      · exact by rw [own_nc hc6]; exact hc6
      · exact by rw [own_nc hc7]; exact hc7
      · exact by rw [own_nc hc8]; exact hc8
    have V_a138 : Arv Z h156 a138 k_a138 .char (9 : Int32) (([(nar .char c0), (nar .char c1), (nar .char c2), (nar .char c3), (nar .char c4), (nar .char c5), (nar .char c6), (nar .char c7), (nar .char c8)] : List Int32).map Value.int) (.int (0 : Int32)) := V_a138
    refine Go.newStr K (q := 451) rfl own_words (hw _ (List.mem_of_getElem? (i := 11) rfl)) (hw _ (List.mem_of_getElem? (i := 13) rfl)) (hw _ (List.mem_of_getElem? (i := 14) rfl)) (hw _ (List.mem_of_getElem? (i := 15) rfl)) (cs := [(nar .char c0), (nar .char c1), (nar .char c2), (nar .char c3), (nar .char c4), (nar .char c5), (nar .char c6), (nar .char c7), (nar .char c8)]) n_a136 (Nat.le_trans Z0 E0.1) X_a136 Fv_a136 Fc_a136 V_a138 (Sa.ext E0) hz (n := 9) rfl rfl (by decide) (by decide) hp158 d2_448 (List.mem_cons_of_mem _ List.mem_cons_self) (by decide) rfl (W := 1) (Nat.le_of_eq rfl) (by decide) (cells' := 3) (slots' := 22) rfl rfl (by decide) (by decide) ?_
    intro h159 K160 S_a136
    have E0 := Ext.keep E0 K160 (allS ge_E0_a136 all0)
    exact Go.retA K rfl rfl d2_451 (by decide) (by decide) (fun _ q => (List.mem_cons_of_mem _ (List.mem_cons_of_mem _ q))) (⟨a136, _, rfl, E0, S_a136⟩)
  · skip
    refine Go.tswOut K (q := 452) d2_1 (by decide) (by decide) (by decide) ?_
    show Go p l e _ s m _ below meth c _ _ _ _ _ _ _ _ _ h 0 0 (mkF m 452 #[.val (.ref ca), .val (.int (Int32.ofNat 10))] [])
    refine Go.new K (q := 455) rfl (hw _ (List.mem_of_getElem? (i := 10) rfl)) (hw _ (List.mem_of_getElem? (i := 11) rfl)) (hw _ (List.mem_of_getElem? (i := 12) rfl)) d2_452 (cells' := 1) (slots' := 4) rfl rfl (by decide) (by decide) ?_
    intro h162 a161 g_a161 N_a161 X_a161 D_a161
    have ge_E0_a161 : h.size ≤ a161 := Nat.le_trans E0.1 (Nat.le_of_eq g_a161.symm)
    have E0 := Ext.trans E0 N_a161
    have Fv_a161 : Fld Z h162 a161 "java/lang/String" "value" "[B" .null := D_a161 (Or.inr (hw _ (List.mem_of_getElem? (i := 38) rfl))) (ty := .array .byte) (by decide)
    have Fc_a161 : Fld Z h162 a161 "java/lang/String" "coder" "B" (.int (0 : Int32)) := D_a161 (Or.inr (hw _ (List.mem_of_getElem? (i := 36) rfl))) (ty := .byte) (by decide)
    have n_a161 : n0 ≤ a161 := (Nat.le_trans Z0 ge_E0_a161)
    refine Go.dup K (q := 456) rfl d2_455 rfl ?_
    refine Go.bipush K (q := 458) rfl (v := (10 : Int32)) (by decide) d2_456 ?_
    refine Go.newarr K (q := 460) rfl (hw _ (List.mem_of_getElem? (i := 0) rfl)) d2_458 (by decide) (cap := 10) (by decide) (by decide) (cells' := 2) (slots' := 14) rfl rfl (by decide) (by decide) ?_
    intro h164 a163 k_a163 g_a163 N_a163 V_a163
    have V_a163 : Arv Z h164 a163 k_a163 .char (10 : Int32) [(.int (0 : Int32)), (.int (0 : Int32)), (.int (0 : Int32)), (.int (0 : Int32)), (.int (0 : Int32)), (.int (0 : Int32)), (.int (0 : Int32)), (.int (0 : Int32)), (.int (0 : Int32)), (.int (0 : Int32))] (.int (0 : Int32)) := V_a163
    have ge_E0_a163 : h.size ≤ a163 := Nat.le_trans E0.1 (Nat.le_of_eq g_a163.symm)
    have E0 := Ext.trans E0 N_a163
    have ne_a161 : a161 ≠ a163 := Nat.ne_of_lt (Nat.lt_of_lt_of_le X_a161.lt (Nat.le_of_eq g_a163.symm))
    have n_a163 : n0 ≤ a163 := (Nat.le_trans Z0 ge_E0_a163)
    have X_a161 := X_a161.ext N_a163
    have Fv_a161 := Fv_a161.ext N_a163
    have Fc_a161 := Fc_a161.ext N_a163
    refine Go.dup K (q := 461) rfl d2_460 rfl ?_
    refine Go.iconst K (q := 462) rfl (v := (0 : Int32)) (by decide) d2_461 ?_
    refine Go.aloadN K (q := 463) rfl d2_462 rfl rfl ?_
    refine Go.iconst K (q := 464) rfl (v := (0 : Int32)) (by decide) d2_463 ?_
    refine Go.caload K (q := 465) rfl (V.ext E0) d2_464 ⟨by decide, by decide⟩ (v := (.int c0)) rfl ?_
    refine Go.castore K (q := 466) rfl V_a163 (i := 0) d2_465 ⟨by decide, by decide⟩ rfl (Nat.le_of_ble_eq_true rfl) n_a163 List.mem_cons_self ?_
    intro h165 W166 V_a163
    have E0 := Ext.wr E0 W166 ge_E0_a163
    have X_a161 := X_a161.wr W166
    have Fv_a161 := Fv_a161.other W166 (Or.inl ne_a161)
    have Fc_a161 := Fc_a161.other W166 (Or.inl ne_a161)
    refine Go.dup K (q := 467) rfl d2_466 rfl ?_
    refine Go.iconst K (q := 468) rfl (v := (1 : Int32)) (by decide) d2_467 ?_
    refine Go.aloadN K (q := 469) rfl d2_468 rfl rfl ?_
    refine Go.iconst K (q := 470) rfl (v := (1 : Int32)) (by decide) d2_469 ?_
    refine Go.caload K (q := 471) rfl (V.ext E0) d2_470 ⟨by decide, by decide⟩ (v := (.int c1)) rfl ?_
    refine Go.castore K (q := 472) rfl V_a163 (i := 1) d2_471 ⟨by decide, by decide⟩ rfl (Nat.le_of_ble_eq_true rfl) n_a163 List.mem_cons_self ?_
    intro h167 W168 V_a163
    have E0 := Ext.wr E0 W168 ge_E0_a163
    have X_a161 := X_a161.wr W168
    have Fv_a161 := Fv_a161.other W168 (Or.inl ne_a161)
    have Fc_a161 := Fc_a161.other W168 (Or.inl ne_a161)
    refine Go.dup K (q := 473) rfl d2_472 rfl ?_
    refine Go.iconst K (q := 474) rfl (v := (2 : Int32)) (by decide) d2_473 ?_
    refine Go.aloadN K (q := 475) rfl d2_474 rfl rfl ?_
    refine Go.iconst K (q := 476) rfl (v := (2 : Int32)) (by decide) d2_475 ?_
    refine Go.caload K (q := 477) rfl (V.ext E0) d2_476 ⟨by decide, by decide⟩ (v := (.int c2)) rfl ?_
    refine Go.castore K (q := 478) rfl V_a163 (i := 2) d2_477 ⟨by decide, by decide⟩ rfl (Nat.le_of_ble_eq_true rfl) n_a163 List.mem_cons_self ?_
    intro h169 W170 V_a163
    have E0 := Ext.wr E0 W170 ge_E0_a163
    have X_a161 := X_a161.wr W170
    have Fv_a161 := Fv_a161.other W170 (Or.inl ne_a161)
    have Fc_a161 := Fc_a161.other W170 (Or.inl ne_a161)
    refine Go.dup K (q := 479) rfl d2_478 rfl ?_
    refine Go.iconst K (q := 480) rfl (v := (3 : Int32)) (by decide) d2_479 ?_
    refine Go.aloadN K (q := 481) rfl d2_480 rfl rfl ?_
    refine Go.iconst K (q := 482) rfl (v := (3 : Int32)) (by decide) d2_481 ?_
    refine Go.caload K (q := 483) rfl (V.ext E0) d2_482 ⟨by decide, by decide⟩ (v := (.int c3)) rfl ?_
    refine Go.castore K (q := 484) rfl V_a163 (i := 3) d2_483 ⟨by decide, by decide⟩ rfl (Nat.le_of_ble_eq_true rfl) n_a163 List.mem_cons_self ?_
    intro h171 W172 V_a163
    have E0 := Ext.wr E0 W172 ge_E0_a163
    have X_a161 := X_a161.wr W172
    have Fv_a161 := Fv_a161.other W172 (Or.inl ne_a161)
    have Fc_a161 := Fc_a161.other W172 (Or.inl ne_a161)
    refine Go.dup K (q := 485) rfl d2_484 rfl ?_
    refine Go.iconst K (q := 486) rfl (v := (4 : Int32)) (by decide) d2_485 ?_
    refine Go.aloadN K (q := 487) rfl d2_486 rfl rfl ?_
    refine Go.iconst K (q := 488) rfl (v := (4 : Int32)) (by decide) d2_487 ?_
    refine Go.caload K (q := 489) rfl (V.ext E0) d2_488 ⟨by decide, by decide⟩ (v := (.int c4)) rfl ?_
    refine Go.castore K (q := 490) rfl V_a163 (i := 4) d2_489 ⟨by decide, by decide⟩ rfl (Nat.le_of_ble_eq_true rfl) n_a163 List.mem_cons_self ?_
    intro h173 W174 V_a163
    have E0 := Ext.wr E0 W174 ge_E0_a163
    have X_a161 := X_a161.wr W174
    have Fv_a161 := Fv_a161.other W174 (Or.inl ne_a161)
    have Fc_a161 := Fc_a161.other W174 (Or.inl ne_a161)
    refine Go.dup K (q := 491) rfl d2_490 rfl ?_
    refine Go.iconst K (q := 492) rfl (v := (5 : Int32)) (by decide) d2_491 ?_
    refine Go.aloadN K (q := 493) rfl d2_492 rfl rfl ?_
    refine Go.iconst K (q := 494) rfl (v := (5 : Int32)) (by decide) d2_493 ?_
    refine Go.caload K (q := 495) rfl (V.ext E0) d2_494 ⟨by decide, by decide⟩ (v := (.int c5)) rfl ?_
    refine Go.castore K (q := 496) rfl V_a163 (i := 5) d2_495 ⟨by decide, by decide⟩ rfl (Nat.le_of_ble_eq_true rfl) n_a163 List.mem_cons_self ?_
    intro h175 W176 V_a163
    have E0 := Ext.wr E0 W176 ge_E0_a163
    have X_a161 := X_a161.wr W176
    have Fv_a161 := Fv_a161.other W176 (Or.inl ne_a161)
    have Fc_a161 := Fc_a161.other W176 (Or.inl ne_a161)
    refine Go.dup K (q := 497) rfl d2_496 rfl ?_
    refine Go.bipush K (q := 499) rfl (v := (6 : Int32)) (by decide) d2_497 ?_
    refine Go.aloadN K (q := 500) rfl d2_499 rfl rfl ?_
    refine Go.bipush K (q := 502) rfl (v := (6 : Int32)) (by decide) d2_500 ?_
    refine Go.caload K (q := 503) rfl (V.ext E0) d2_502 ⟨by decide, by decide⟩ (v := (.int c6)) rfl ?_
    refine Go.castore K (q := 504) rfl V_a163 (i := 6) d2_503 ⟨by decide, by decide⟩ rfl (Nat.le_of_ble_eq_true rfl) n_a163 List.mem_cons_self ?_
    intro h177 W178 V_a163
    have E0 := Ext.wr E0 W178 ge_E0_a163
    have X_a161 := X_a161.wr W178
    have Fv_a161 := Fv_a161.other W178 (Or.inl ne_a161)
    have Fc_a161 := Fc_a161.other W178 (Or.inl ne_a161)
    refine Go.dup K (q := 505) rfl d2_504 rfl ?_
    refine Go.bipush K (q := 507) rfl (v := (7 : Int32)) (by decide) d2_505 ?_
    refine Go.aloadN K (q := 508) rfl d2_507 rfl rfl ?_
    refine Go.bipush K (q := 510) rfl (v := (7 : Int32)) (by decide) d2_508 ?_
    refine Go.caload K (q := 511) rfl (V.ext E0) d2_510 ⟨by decide, by decide⟩ (v := (.int c7)) rfl ?_
    refine Go.castore K (q := 512) rfl V_a163 (i := 7) d2_511 ⟨by decide, by decide⟩ rfl (Nat.le_of_ble_eq_true rfl) n_a163 List.mem_cons_self ?_
    intro h179 W180 V_a163
    have E0 := Ext.wr E0 W180 ge_E0_a163
    have X_a161 := X_a161.wr W180
    have Fv_a161 := Fv_a161.other W180 (Or.inl ne_a161)
    have Fc_a161 := Fc_a161.other W180 (Or.inl ne_a161)
    refine Go.dup K (q := 513) rfl d2_512 rfl ?_
    refine Go.bipush K (q := 515) rfl (v := (8 : Int32)) (by decide) d2_513 ?_
    refine Go.aloadN K (q := 516) rfl d2_515 rfl rfl ?_
    refine Go.bipush K (q := 518) rfl (v := (8 : Int32)) (by decide) d2_516 ?_
    refine Go.caload K (q := 519) rfl (V.ext E0) d2_518 ⟨by decide, by decide⟩ (v := (.int c8)) rfl ?_
    refine Go.castore K (q := 520) rfl V_a163 (i := 8) d2_519 ⟨by decide, by decide⟩ rfl (Nat.le_of_ble_eq_true rfl) n_a163 List.mem_cons_self ?_
    intro h181 W182 V_a163
    have E0 := Ext.wr E0 W182 ge_E0_a163
    have X_a161 := X_a161.wr W182
    have Fv_a161 := Fv_a161.other W182 (Or.inl ne_a161)
    have Fc_a161 := Fc_a161.other W182 (Or.inl ne_a161)
    refine Go.dup K (q := 521) rfl d2_520 rfl ?_
    refine Go.bipush K (q := 523) rfl (v := (9 : Int32)) (by decide) d2_521 ?_
    refine Go.aloadN K (q := 524) rfl d2_523 rfl rfl ?_
    refine Go.bipush K (q := 526) rfl (v := (9 : Int32)) (by decide) d2_524 ?_
    refine Go.caload K (q := 527) rfl (V.ext E0) d2_526 ⟨by decide, by decide⟩ (v := (.int c9)) rfl ?_
    refine Go.castore K (q := 528) rfl V_a163 (i := 9) d2_527 ⟨by decide, by decide⟩ rfl (Nat.le_of_ble_eq_true rfl) n_a163 List.mem_cons_self ?_
    intro h183 W184 V_a163
    have E0 := Ext.wr E0 W184 ge_E0_a163
    have X_a161 := X_a161.wr W184
    have Fv_a161 := Fv_a161.other W184 (Or.inl ne_a161)
    have Fc_a161 := Fc_a161.other W184 (Or.inl ne_a161)
    have hp185 : ∀ c ∈ ([(nar .char c0), (nar .char c1), (nar .char c2), (nar .char c3), (nar .char c4), (nar .char c5), (nar .char c6), (nar .char c7), (nar .char c8), (nar .char c9)] : List Int32), ¬ c < 0 ∧ ¬ (255 : Int32) < c := by
      intro c hc
      simp only [List.mem_cons, List.not_mem_nil, or_false] at hc
      rcases hc with rfl | rfl | rfl | rfl | rfl | rfl | rfl | rfl | rfl | rfl
      · exact by rw [own_nc hc0]; exact hc0
      · exact by rw [own_nc hc1]; exact hc1
      · exact by rw [own_nc hc2]; exact hc2
      · exact by rw [own_nc hc3]; exact hc3
      · exact by rw [own_nc hc4]; exact hc4
      · exact by rw [own_nc hc5]; exact hc5
      · exact by rw [own_nc hc6]; exact hc6
      · exact by rw [own_nc hc7]; exact hc7
      · exact by rw [own_nc hc8]; exact hc8
      · exact by rw [own_nc hc9]; exact hc9
    have V_a163 : Arv Z h183 a163 k_a163 .char (10 : Int32) (([(nar .char c0), (nar .char c1), (nar .char c2), (nar .char c3), (nar .char c4), (nar .char c5), (nar .char c6), (nar .char c7), (nar .char c8), (nar .char c9)] : List Int32).map Value.int) (.int (0 : Int32)) := V_a163
    refine Go.newStr K (q := 531) rfl own_words (hw _ (List.mem_of_getElem? (i := 11) rfl)) (hw _ (List.mem_of_getElem? (i := 13) rfl)) (hw _ (List.mem_of_getElem? (i := 14) rfl)) (hw _ (List.mem_of_getElem? (i := 15) rfl)) (cs := [(nar .char c0), (nar .char c1), (nar .char c2), (nar .char c3), (nar .char c4), (nar .char c5), (nar .char c6), (nar .char c7), (nar .char c8), (nar .char c9)]) n_a161 (Nat.le_trans Z0 E0.1) X_a161 Fv_a161 Fc_a161 V_a163 (Sa.ext E0) hz (n := 10) rfl rfl (by decide) (by decide) hp185 d2_528 (List.mem_cons_of_mem _ List.mem_cons_self) (by decide) rfl (W := 1) (Nat.le_of_eq rfl) (by decide) (cells' := 3) (slots' := 24) rfl rfl (by decide) (by decide) ?_
    intro h186 K187 S_a161
    have E0 := Ext.keep E0 K187 (allS ge_E0_a161 all0)
    exact Go.retA K rfl rfl d2_531 (by decide) (by decide) (fun _ q => (List.mem_cons_of_mem _ (List.mem_cons_of_mem _ q))) (⟨a161, _, rfl, E0, S_a161⟩)
set_option maxRecDepth 65536 in
set_option maxHeartbeats 40000000 in
theorem c_vals (l : Launch) (Z : State) (a0 : Array Value) (hw : ∀ d ∈ tables_1, d.before a0 Z = true) (xs : List Addr) (n0 : Nat) (h : Heap) (Z0 : n0 ≤ h.size) (ki_0 ki_1 : Addr) (va : Addr) (kv : ClassId) (SV : Sta Z h "com/example/tasklane/tasklane/engine/InstanceState" "$VALUES" "[Lcom/example/tasklane/tasklane/engine/InstanceState;" (.ref va)) (AV : Arv Z h va kv (.object "com/example/tasklane/tasklane/engine/InstanceState") (2 : Int32) [.ref ki_0, .ref ki_1] .null) (XV : Exa Z h va "[Lcom/example/tasklane/tasklane/engine/InstanceState;") :
    Ctr l Z consts_1 xs n0 (⟨"com/example/tasklane/tasklane/engine/InstanceState", "values", "()[Lcom/example/tasklane/tasklane/engine/InstanceState;"⟩ : MethodName) prog_5_method_1_code 0 (some (.array (.object "com/example/tasklane/tasklane/engine/InstanceState"))) [] ({ frames := 1, cells := 1, slots := 2, locals := 14 } : Room) #[] h (fun v h' => ∃ b, v = some (.ref b) ∧ Ext h h' ∧ Arv Z h' b kv (.object "com/example/tasklane/tasklane/engine/InstanceState") (2 : Int32) [.ref ki_0, .ref ki_1] .null) := by
  refine Ctr.body pn11 ?_
  intro p e s m below meth c K
  refine Go.entry (f' := (mkF m 0 #[] [])) (by first | (simp [entryFrame, mkF, argsToLocals, Value.category]; done) | rfl) ?_
  have E0 := Ext.refl h
  refine Go.getS K (q := 3) rfl (hw _ (List.mem_of_getElem? (i := 60) rfl)) Via.refl (SV) d12_0 ?_
  refine Go.clone K (q := 6) rfl (hw _ (List.mem_of_getElem? (i := 62) rfl)) (hw _ (List.mem_of_getElem? (i := 63) rfl)) (hw _ (List.mem_of_getElem? (i := 67) rfl)) (hw _ (List.mem_of_getElem? (i := 65) rfl)) (hw _ (List.mem_of_getElem? (i := 66) rfl)) (hw _ (List.mem_of_getElem? (i := 68) rfl)) AV XV d12_3 rfl (by decide) (W := 0) (cap := 2) (Nat.le_of_eq rfl) (by decide) (by decide) (cells' := 1) (slots' := 2) rfl rfl (by decide) (by decide) ?_
  intro h1 cb g_cb N_cb A_cb X_cb
  have ge_E0_cb : h.size ≤ cb := Nat.le_trans E0.1 (Nat.le_of_eq g_cb.symm)
  have E0 := Ext.trans E0 N_cb
  refine Go.castY K (q := 9) rfl (hw _ (List.mem_of_getElem? (i := 72) rfl)) (Ins.self X_cb) d12_6 ?_
  exact Go.retA K rfl rfl d12_9 (by decide) (by decide) (fun _ q => (List.mem_cons_of_mem _ q)) (⟨cb, rfl, E0, A_cb⟩)
set_option maxRecDepth 65536 in
set_option maxHeartbeats 40000000 in
theorem c_eqn (l : Launch) (Z : State) (a0 : Array Value) (hw : ∀ d ∈ tables_1, d.before a0 Z = true) (xs : List Addr) (n0 : Nat) (h : Heap) (Z0 : n0 ≤ h.size) (a : Addr) :
    Ctr l Z consts_1 xs n0 (⟨"java/lang/String", "equals", "(Ljava/lang/Object;)Z"⟩ : MethodName) jdk_42_method_66_code 3 (some .boolean) [] ({ frames := 0, cells := 0, slots := 0, locals := 0 } : Room) #[(.ref a), .null] h (fun v h' => v = some (.int 0) ∧ h = h') := by
  refine Ctr.body pn12 ?_
  intro p e s m below meth c K
  refine Go.entry (f' := (mkF m 0 #[.val (.ref a), .val .null, .unset] [])) (by first | (simp [entryFrame, mkF, argsToLocals, Value.category]; done) | rfl) ?_
  refine Go.aloadN K (q := 1) rfl d9_0 rfl rfl ?_
  refine Go.aloadN K (q := 2) rfl d9_1 rfl rfl ?_
  refine Go.acmp K (q := 7) rfl rfl (same := false) (decide_eq_false (fun q => by cases q)) (by decide) (by decide) d9_2 ?_
  refine Go.aloadN K (q := 8) rfl d9_7 rfl rfl ?_
  refine Go.instNull K (q := 11) rfl d9_8 ?_
  refine Go.ifY K (q := 54) (by decide) (by decide) d9_11 (show (0 : Int32) = (0 : Int32) from rfl) ?_
  refine Go.iconst K (q := 55) rfl (v := (0 : Int32)) (by decide) d9_54 ?_
  exact Go.retN K (by simp) d9_55 (by decide) (by decide) (fun _ q => q) (⟨rfl, rfl⟩)
set_option maxRecDepth 65536 in
set_option maxHeartbeats 40000000 in
theorem c_from (l : Launch) (Z : State) (a0 : Array Value) (hw : ∀ d ∈ tables_1, d.before a0 Z = true) (xs : List Addr) (n0 : Nat) (h : Heap) (Z0 : n0 ≤ h.size) (st : Addr) (cs : List Int32) (S1 : Str Z h st cs) (z : Int32) (Sa : Sta Z h "java/lang/String" "COMPACT_STRINGS" "Z" (.int z)) (hz : ¬ z = 0) (ki_0 ki_1 : Addr) (va : Addr) (kv : ClassId) (SV : Sta Z h "com/example/tasklane/tasklane/engine/InstanceState" "$VALUES" "[Lcom/example/tasklane/tasklane/engine/InstanceState;" (.ref va)) (AV : Arv Z h va kv (.object "com/example/tasklane/tasklane/engine/InstanceState") (2 : Int32) [.ref ki_0, .ref ki_1] .null) (XV : Exa Z h va "[Lcom/example/tasklane/tasklane/engine/InstanceState;") (si_0 si_1 : Addr) (I_0 : Fld Z h ki_0 "com/example/tasklane/tasklane/engine/InstanceState" "id" "Ljava/lang/String;" (.ref si_0)) (U_0 : Str Z h si_0 [(97 : Int32), (99 : Int32), (116 : Int32), (105 : Int32), (118 : Int32), (101 : Int32)]) (I_1 : Fld Z h ki_1 "com/example/tasklane/tasklane/engine/InstanceState" "id" "Ljava/lang/String;" (.ref si_1)) (U_1 : Str Z h si_1 [(99 : Int32), (111 : Int32), (109 : Int32), (112 : Int32), (108 : Int32), (101 : Int32), (116 : Int32), (101 : Int32), (100 : Int32)]) (oe : Addr) (SE : Sta Z h "java/util/Optional" "EMPTY" "Ljava/util/Optional;" (.ref oe)) (XE : Exa Z h oe "java/util/Optional") (FE : Fld Z h oe "java/util/Optional" "value" "Ljava/lang/Object;" .null) :
    Ctr l Z consts_1 xs n0 (⟨"com/example/tasklane/tasklane/engine/InstanceState", "fromId", "(Ljava/lang/String;)Ljava/util/Optional;"⟩ : MethodName) prog_5_method_5_code 5 (some (.object "java/util/Optional")) [] ({ frames := 3, cells := 2, slots := 3, locals := 38 } : Room) #[(.ref st)] h (fun v h' => ∃ o, v = some (.ref o) ∧ Ext h h' ∧ Exa Z h' o "java/util/Optional" ∧ Fld Z h' o "java/util/Optional" "value" "Ljava/lang/Object;" (own_find ki_0 ki_1 cs)) := by
  refine Ctr.body pn13 ?_
  intro p e s m below meth c K
  refine Go.entry (f' := (mkF m 0 #[.val (.ref st), .unset, .unset, .unset, .unset] [])) (by first | (simp [entryFrame, mkF, argsToLocals, Value.category]; done) | rfl) ?_
  have E0 := Ext.refl h
  refine Go.cS K (q := 3) rfl (y := (⟨"com/example/tasklane/tasklane/engine/InstanceState", "values", "()[Lcom/example/tasklane/tasklane/engine/InstanceState;"⟩ : MethodName)) (c_vals l Z a0 hw xs n0 h Z0 ki_0 ki_1 va kv SV AV XV) (hw _ (List.mem_of_getElem? (i := 57) rfl)) (hw _ (List.mem_of_getElem? (i := 58) rfl)) (hw _ (List.mem_of_getElem? (i := 55) rfl)) (hw _ (List.mem_of_getElem? (i := 59) rfl)) (by decide) pd4 (argsL := []) (rest := []) rfl rfl rfl rfl (W := 0) (Nat.le_of_eq rfl) (by decide) (by decide) d11_0 (cells' := 1) (slots' := 2) rfl rfl (by decide) (by decide) ?_
  intro r2 h1 hQ sz_h1
  obtain ⟨vb, rfl, N_v, A_v⟩ := hQ
  have E0 := Ext.trans E0 N_v
  show Go p l e _ s m _ below meth c _ _ _ _ _ _ _ _ _ h1 1 2 (mkF m 3 #[.val (.ref st), .unset, .unset, .unset, .unset] [(.ref vb)])
  refine Go.astoreN K (q := 4) rfl (L' := #[.val (.ref st), .val (.ref vb), .unset, .unset, .unset]) d11_3 rfl rfl ?_
  refine Go.aloadN K (q := 5) rfl d11_4 rfl rfl ?_
  refine Go.alen K (q := 6) rfl A_v d11_5 ?_
  refine Go.istoreN K (q := 7) rfl (L' := #[.val (.ref st), .val (.ref vb), .val (.int (2 : Int32)), .unset, .unset]) d11_6 rfl ?_
  refine Go.iconst K (q := 8) rfl (v := (0 : Int32)) (by decide) d11_7 ?_
  refine Go.istoreN K (q := 9) rfl (L' := #[.val (.ref st), .val (.ref vb), .val (.int (2 : Int32)), .val (.int (0 : Int32)), .unset]) d11_8 rfl ?_
  refine Go.iloadN K (q := 10) rfl d11_9 rfl ?_
  refine Go.iloadN K (q := 11) rfl d11_10 rfl ?_
  refine Go.icmpN K (q := 14) rfl d11_11 (show (0 : Int32) < (2 : Int32) from (by decide)) ?_
  refine Go.aloadN K (q := 15) rfl d11_14 rfl rfl ?_
  refine Go.iloadN K (q := 16) rfl d11_15 rfl ?_
  refine Go.aaload K (q := 17) rfl A_v rfl d11_16 ⟨by decide, by decide⟩ (v := (.ref ki_0)) rfl ?_
  refine Go.astore K (q := 19) rfl (L' := #[.val (.ref st), .val (.ref vb), .val (.int (2 : Int32)), .val (.int (0 : Int32)), .val (.ref ki_0)]) d11_17 rfl rfl ?_
  refine Go.aload K (q := 21) rfl d11_19 rfl rfl ?_
  refine Go.getF K (q := 24) rfl (hw _ (List.mem_of_getElem? (i := 74) rfl)) Via.refl ((I_0.ext E0)) d11_21 ?_
  refine Go.aloadN K (q := 25) rfl d11_24 rfl rfl ?_
  refine Go.strEq K (q := 28) rfl (own_wordsEq hw) (hw _ (List.mem_of_getElem? (i := 11) rfl)) (y := (⟨"java/lang/String", "equals", "(Ljava/lang/Object;)Z"⟩ : MethodName)) (hw _ (List.mem_of_getElem? (i := 76) rfl)) (hw _ (List.mem_of_getElem? (i := 43) rfl)) (nfS (hw _ (List.mem_of_getElem? (i := 45) rfl))) (hw _ (List.mem_of_getElem? (i := 45) rfl)) (hw _ (List.mem_of_getElem? (i := 44) rfl)) (by decide) rfl (U_0.ext E0) (S1.ext E0) (Sa.ext E0) hz d11_25 (by decide) rfl (W := 0) (Nat.le_of_eq rfl) (by decide) (by decide) (by decide) (fun f0 => ?_) (fun f0 => ?_)
  · skip
    refine Go.ifN K (q := 31) rfl d11_28 (show ¬ (1 : Int32) = (0 : Int32) from (by decide)) ?_
    refine Go.aload K (q := 33) rfl d11_31 rfl rfl ?_
    refine Go.cS K (q := 36) rfl (y := (⟨"java/util/Optional", "of", "(Ljava/lang/Object;)Ljava/util/Optional;"⟩ : MethodName)) (c_oof l Z a0 hw xs n0 h1 (Nat.le_trans Z0 E0.1) ki_0) (hw _ (List.mem_of_getElem? (i := 124) rfl)) (hw _ (List.mem_of_getElem? (i := 125) rfl)) (hw _ (List.mem_of_getElem? (i := 79) rfl)) (hw _ (List.mem_of_getElem? (i := 126) rfl)) (by decide) pd5 (argsL := [(.ref ki_0)]) (rest := []) rfl rfl rfl rfl (W := 0) (Nat.le_of_eq rfl) (by decide) (by decide) d11_33 (cells' := 2) (slots' := 3) rfl rfl (by decide) (by decide) ?_
    intro r4 h3 hQ sz_h3
    obtain ⟨oo, rfl, N_o, X_o, F_o⟩ := hQ
    have E0 := Ext.trans E0 N_o
    show Go p l e _ s m _ below meth c _ _ _ _ _ _ _ _ _ h3 2 3 (mkF m 36 #[.val (.ref st), .val (.ref vb), .val (.int (2 : Int32)), .val (.int (0 : Int32)), .val (.ref ki_0)] [(.ref oo)])
    exact Go.retA K rfl rfl d11_36 (by decide) (by decide) (fun _ q => q) (⟨oo, rfl, E0, X_o, by rw [own_find, if_pos f0]; exact F_o⟩)
  · skip
    refine Go.ifY K (q := 37) (by decide) (by decide) d11_28 (show (0 : Int32) = (0 : Int32) from rfl) ?_
    refine Go.iinc K (q := 40) rfl (L' := #[.val (.ref st), .val (.ref vb), .val (.int (2 : Int32)), .val (.int ((0 : Int32) + (1 : Int32))), .val (.ref ki_0)]) (y := (1 : Int32)) (by decide) d11_37 rfl rfl ?_
    refine Go.goto K (q := 9) (by decide) (by decide) d11_40 ?_
    refine Go.iloadN K (q := 10) rfl d11_9 rfl ?_
    refine Go.iloadN K (q := 11) rfl d11_10 rfl ?_
    refine Go.icmpN K (q := 14) rfl d11_11 (show ((0 : Int32) + (1 : Int32)) < (2 : Int32) from (by decide)) ?_
    refine Go.aloadN K (q := 15) rfl d11_14 rfl rfl ?_
    refine Go.iloadN K (q := 16) rfl d11_15 rfl ?_
    refine Go.aaload K (q := 17) rfl A_v rfl d11_16 ⟨by decide, by decide⟩ (v := (.ref ki_1)) rfl ?_
    refine Go.astore K (q := 19) rfl (L' := #[.val (.ref st), .val (.ref vb), .val (.int (2 : Int32)), .val (.int ((0 : Int32) + (1 : Int32))), .val (.ref ki_1)]) d11_17 rfl rfl ?_
    refine Go.aload K (q := 21) rfl d11_19 rfl rfl ?_
    refine Go.getF K (q := 24) rfl (hw _ (List.mem_of_getElem? (i := 74) rfl)) Via.refl ((I_1.ext E0)) d11_21 ?_
    refine Go.aloadN K (q := 25) rfl d11_24 rfl rfl ?_
    refine Go.strEq K (q := 28) rfl (own_wordsEq hw) (hw _ (List.mem_of_getElem? (i := 11) rfl)) (y := (⟨"java/lang/String", "equals", "(Ljava/lang/Object;)Z"⟩ : MethodName)) (hw _ (List.mem_of_getElem? (i := 76) rfl)) (hw _ (List.mem_of_getElem? (i := 43) rfl)) (nfS (hw _ (List.mem_of_getElem? (i := 45) rfl))) (hw _ (List.mem_of_getElem? (i := 45) rfl)) (hw _ (List.mem_of_getElem? (i := 44) rfl)) (by decide) rfl (U_1.ext E0) (S1.ext E0) (Sa.ext E0) hz d11_25 (by decide) rfl (W := 0) (Nat.le_of_eq rfl) (by decide) (by decide) (by decide) (fun f1 => ?_) (fun f1 => ?_)
    · skip
      refine Go.ifN K (q := 31) rfl d11_28 (show ¬ (1 : Int32) = (0 : Int32) from (by decide)) ?_
      refine Go.aload K (q := 33) rfl d11_31 rfl rfl ?_
      refine Go.cS K (q := 36) rfl (y := (⟨"java/util/Optional", "of", "(Ljava/lang/Object;)Ljava/util/Optional;"⟩ : MethodName)) (c_oof l Z a0 hw xs n0 h1 (Nat.le_trans Z0 E0.1) ki_1) (hw _ (List.mem_of_getElem? (i := 124) rfl)) (hw _ (List.mem_of_getElem? (i := 125) rfl)) (hw _ (List.mem_of_getElem? (i := 79) rfl)) (hw _ (List.mem_of_getElem? (i := 126) rfl)) (by decide) pd5 (argsL := [(.ref ki_1)]) (rest := []) rfl rfl rfl rfl (W := 0) (Nat.le_of_eq rfl) (by decide) (by decide) d11_33 (cells' := 2) (slots' := 3) rfl rfl (by decide) (by decide) ?_
      intro r6 h5 hQ sz_h5
      obtain ⟨oo, rfl, N_o, X_o, F_o⟩ := hQ
      have E0 := Ext.trans E0 N_o
      show Go p l e _ s m _ below meth c _ _ _ _ _ _ _ _ _ h5 2 3 (mkF m 36 #[.val (.ref st), .val (.ref vb), .val (.int (2 : Int32)), .val (.int ((0 : Int32) + (1 : Int32))), .val (.ref ki_1)] [(.ref oo)])
      exact Go.retA K rfl rfl d11_36 (by decide) (by decide) (fun _ q => q) (⟨oo, rfl, E0, X_o, by rw [own_find, if_neg f0, if_pos f1]; exact F_o⟩)
    · skip
      refine Go.ifY K (q := 37) (by decide) (by decide) d11_28 (show (0 : Int32) = (0 : Int32) from rfl) ?_
      refine Go.iinc K (q := 40) rfl (L' := #[.val (.ref st), .val (.ref vb), .val (.int (2 : Int32)), .val (.int (((0 : Int32) + (1 : Int32)) + (1 : Int32))), .val (.ref ki_1)]) (y := (1 : Int32)) (by decide) d11_37 rfl rfl ?_
      refine Go.goto K (q := 9) (by decide) (by decide) d11_40 ?_
      refine Go.iloadN K (q := 10) rfl d11_9 rfl ?_
      refine Go.iloadN K (q := 11) rfl d11_10 rfl ?_
      refine Go.icmpY K (q := 43) (by decide) (by decide) d11_11 (show ¬ (((0 : Int32) + (1 : Int32)) + (1 : Int32)) < (2 : Int32) from (by decide)) ?_
      refine Go.cS K (q := 46) rfl (y := (⟨"java/util/Optional", "empty", "()Ljava/util/Optional;"⟩ : MethodName)) (c_oem l Z a0 hw xs n0 h1 (Nat.le_trans Z0 E0.1) oe (SE.ext E0)) (hw _ (List.mem_of_getElem? (i := 77) rfl)) (hw _ (List.mem_of_getElem? (i := 78) rfl)) (hw _ (List.mem_of_getElem? (i := 79) rfl)) (hw _ (List.mem_of_getElem? (i := 80) rfl)) (by decide) pd6 (argsL := []) (rest := []) rfl rfl rfl rfl (W := 0) (Nat.le_of_eq rfl) (by decide) (by decide) d11_43 (cells' := 1) (slots' := 2) rfl rfl (by decide) (by decide) ?_
      intro r8 h7 hQ sz_h7
      obtain ⟨rfl, rfl⟩ := hQ
      show Go p l e _ s m _ below meth c _ _ _ _ _ _ _ _ _ h1 1 2 (mkF m 46 #[.val (.ref st), .val (.ref vb), .val (.int (2 : Int32)), .val (.int (((0 : Int32) + (1 : Int32)) + (1 : Int32))), .val (.ref ki_1)] [(.ref oe)])
      exact Go.retA K rfl rfl d11_46 (by decide) (by decide) (fun _ q => q) (⟨oe, rfl, E0, XE.ext E0, by rw [own_find, if_neg f0, if_neg f1]; exact FE.ext E0⟩)
set_option maxRecDepth 65536 in
set_option maxHeartbeats 40000000 in
theorem c_fromN (l : Launch) (Z : State) (a0 : Array Value) (hw : ∀ d ∈ tables_1, d.before a0 Z = true) (xs : List Addr) (n0 : Nat) (h : Heap) (Z0 : n0 ≤ h.size) (ki_0 ki_1 : Addr) (va : Addr) (kv : ClassId) (SV : Sta Z h "com/example/tasklane/tasklane/engine/InstanceState" "$VALUES" "[Lcom/example/tasklane/tasklane/engine/InstanceState;" (.ref va)) (AV : Arv Z h va kv (.object "com/example/tasklane/tasklane/engine/InstanceState") (2 : Int32) [.ref ki_0, .ref ki_1] .null) (XV : Exa Z h va "[Lcom/example/tasklane/tasklane/engine/InstanceState;") (si_0 si_1 : Addr) (I_0 : Fld Z h ki_0 "com/example/tasklane/tasklane/engine/InstanceState" "id" "Ljava/lang/String;" (.ref si_0)) (U_0 : Str Z h si_0 [(97 : Int32), (99 : Int32), (116 : Int32), (105 : Int32), (118 : Int32), (101 : Int32)]) (I_1 : Fld Z h ki_1 "com/example/tasklane/tasklane/engine/InstanceState" "id" "Ljava/lang/String;" (.ref si_1)) (U_1 : Str Z h si_1 [(99 : Int32), (111 : Int32), (109 : Int32), (112 : Int32), (108 : Int32), (101 : Int32), (116 : Int32), (101 : Int32), (100 : Int32)]) (oe : Addr) (SE : Sta Z h "java/util/Optional" "EMPTY" "Ljava/util/Optional;" (.ref oe)) (XE : Exa Z h oe "java/util/Optional") (FE : Fld Z h oe "java/util/Optional" "value" "Ljava/lang/Object;" .null) :
    Ctr l Z consts_1 xs n0 (⟨"com/example/tasklane/tasklane/engine/InstanceState", "fromId", "(Ljava/lang/String;)Ljava/util/Optional;"⟩ : MethodName) prog_5_method_5_code 5 (some (.object "java/util/Optional")) [] ({ frames := 2, cells := 1, slots := 2, locals := 25 } : Room) #[.null] h (fun v h' => ∃ o, v = some (.ref o) ∧ Ext h h' ∧ Exa Z h' o "java/util/Optional" ∧ Fld Z h' o "java/util/Optional" "value" "Ljava/lang/Object;" .null) := by
  refine Ctr.body pn13 ?_
  intro p e s m below meth c K
  refine Go.entry (f' := (mkF m 0 #[.val .null, .unset, .unset, .unset, .unset] [])) (by first | (simp [entryFrame, mkF, argsToLocals, Value.category]; done) | rfl) ?_
  have E0 := Ext.refl h
  refine Go.cS K (q := 3) rfl (y := (⟨"com/example/tasklane/tasklane/engine/InstanceState", "values", "()[Lcom/example/tasklane/tasklane/engine/InstanceState;"⟩ : MethodName)) (c_vals l Z a0 hw xs n0 h Z0 ki_0 ki_1 va kv SV AV XV) (hw _ (List.mem_of_getElem? (i := 57) rfl)) (hw _ (List.mem_of_getElem? (i := 58) rfl)) (hw _ (List.mem_of_getElem? (i := 55) rfl)) (hw _ (List.mem_of_getElem? (i := 59) rfl)) (by decide) pd4 (argsL := []) (rest := []) rfl rfl rfl rfl (W := 0) (Nat.le_of_eq rfl) (by decide) (by decide) d11_0 (cells' := 1) (slots' := 2) rfl rfl (by decide) (by decide) ?_
  intro r2 h1 hQ sz_h1
  obtain ⟨vb, rfl, N_v, A_v⟩ := hQ
  have E0 := Ext.trans E0 N_v
  show Go p l e _ s m _ below meth c _ _ _ _ _ _ _ _ _ h1 1 2 (mkF m 3 #[.val .null, .unset, .unset, .unset, .unset] [(.ref vb)])
  refine Go.astoreN K (q := 4) rfl (L' := #[.val .null, .val (.ref vb), .unset, .unset, .unset]) d11_3 rfl rfl ?_
  refine Go.aloadN K (q := 5) rfl d11_4 rfl rfl ?_
  refine Go.alen K (q := 6) rfl A_v d11_5 ?_
  refine Go.istoreN K (q := 7) rfl (L' := #[.val .null, .val (.ref vb), .val (.int (2 : Int32)), .unset, .unset]) d11_6 rfl ?_
  refine Go.iconst K (q := 8) rfl (v := (0 : Int32)) (by decide) d11_7 ?_
  refine Go.istoreN K (q := 9) rfl (L' := #[.val .null, .val (.ref vb), .val (.int (2 : Int32)), .val (.int (0 : Int32)), .unset]) d11_8 rfl ?_
  refine Go.iloadN K (q := 10) rfl d11_9 rfl ?_
  refine Go.iloadN K (q := 11) rfl d11_10 rfl ?_
  refine Go.icmpN K (q := 14) rfl d11_11 (show (0 : Int32) < (2 : Int32) from (by decide)) ?_
  refine Go.aloadN K (q := 15) rfl d11_14 rfl rfl ?_
  refine Go.iloadN K (q := 16) rfl d11_15 rfl ?_
  refine Go.aaload K (q := 17) rfl A_v rfl d11_16 ⟨by decide, by decide⟩ (v := (.ref ki_0)) rfl ?_
  refine Go.astore K (q := 19) rfl (L' := #[.val .null, .val (.ref vb), .val (.int (2 : Int32)), .val (.int (0 : Int32)), .val (.ref ki_0)]) d11_17 rfl rfl ?_
  refine Go.aload K (q := 21) rfl d11_19 rfl rfl ?_
  refine Go.getF K (q := 24) rfl (hw _ (List.mem_of_getElem? (i := 74) rfl)) Via.refl ((I_0.ext E0)) d11_21 ?_
  refine Go.aloadN K (q := 25) rfl d11_24 rfl rfl ?_
  refine Go.cV K (q := 28) rfl (y := (⟨"java/lang/String", "equals", "(Ljava/lang/Object;)Z"⟩ : MethodName)) (z := (⟨"java/lang/String", "equals", "(Ljava/lang/Object;)Z"⟩ : MethodName)) (c_eqn l Z a0 hw xs n0 h1 (Nat.le_trans Z0 E0.1) si_0) (hw _ (List.mem_of_getElem? (i := 76) rfl)) (hw _ (List.mem_of_getElem? (i := 43) rfl)) (nfS (hw _ (List.mem_of_getElem? (i := 45) rfl))) (hw _ (List.mem_of_getElem? (i := 45) rfl)) (hw _ (List.mem_of_getElem? (i := 44) rfl)) (hw _ (List.mem_of_getElem? (i := 12) rfl)) (hw _ (List.mem_of_getElem? (i := 46) rfl)) (by decide) (isa_of (U_0.ext E0).exa) pd7 (argsL := [.null]) (rest := []) rfl rfl rfl rfl (W := 0) (Nat.le_of_eq rfl) (by decide) (by decide) d11_25 (cells' := 1) (slots' := 2) rfl rfl (by decide) (by decide) ?_
  intro r4 h3 hQ sz_h3
  obtain ⟨rfl, rfl⟩ := hQ
  show Go p l e _ s m _ below meth c _ _ _ _ _ _ _ _ _ h1 1 2 (mkF m 28 #[.val .null, .val (.ref vb), .val (.int (2 : Int32)), .val (.int (0 : Int32)), .val (.ref ki_0)] [(.int (0 : Int32))])
  refine Go.ifY K (q := 37) (by decide) (by decide) d11_28 (show (0 : Int32) = (0 : Int32) from rfl) ?_
  refine Go.iinc K (q := 40) rfl (L' := #[.val .null, .val (.ref vb), .val (.int (2 : Int32)), .val (.int ((0 : Int32) + (1 : Int32))), .val (.ref ki_0)]) (y := (1 : Int32)) (by decide) d11_37 rfl rfl ?_
  refine Go.goto K (q := 9) (by decide) (by decide) d11_40 ?_
  refine Go.iloadN K (q := 10) rfl d11_9 rfl ?_
  refine Go.iloadN K (q := 11) rfl d11_10 rfl ?_
  refine Go.icmpN K (q := 14) rfl d11_11 (show ((0 : Int32) + (1 : Int32)) < (2 : Int32) from (by decide)) ?_
  refine Go.aloadN K (q := 15) rfl d11_14 rfl rfl ?_
  refine Go.iloadN K (q := 16) rfl d11_15 rfl ?_
  refine Go.aaload K (q := 17) rfl A_v rfl d11_16 ⟨by decide, by decide⟩ (v := (.ref ki_1)) rfl ?_
  refine Go.astore K (q := 19) rfl (L' := #[.val .null, .val (.ref vb), .val (.int (2 : Int32)), .val (.int ((0 : Int32) + (1 : Int32))), .val (.ref ki_1)]) d11_17 rfl rfl ?_
  refine Go.aload K (q := 21) rfl d11_19 rfl rfl ?_
  refine Go.getF K (q := 24) rfl (hw _ (List.mem_of_getElem? (i := 74) rfl)) Via.refl ((I_1.ext E0)) d11_21 ?_
  refine Go.aloadN K (q := 25) rfl d11_24 rfl rfl ?_
  refine Go.cV K (q := 28) rfl (y := (⟨"java/lang/String", "equals", "(Ljava/lang/Object;)Z"⟩ : MethodName)) (z := (⟨"java/lang/String", "equals", "(Ljava/lang/Object;)Z"⟩ : MethodName)) (c_eqn l Z a0 hw xs n0 h1 (Nat.le_trans Z0 E0.1) si_1) (hw _ (List.mem_of_getElem? (i := 76) rfl)) (hw _ (List.mem_of_getElem? (i := 43) rfl)) (nfS (hw _ (List.mem_of_getElem? (i := 45) rfl))) (hw _ (List.mem_of_getElem? (i := 45) rfl)) (hw _ (List.mem_of_getElem? (i := 44) rfl)) (hw _ (List.mem_of_getElem? (i := 12) rfl)) (hw _ (List.mem_of_getElem? (i := 46) rfl)) (by decide) (isa_of (U_1.ext E0).exa) pd7 (argsL := [.null]) (rest := []) rfl rfl rfl rfl (W := 0) (Nat.le_of_eq rfl) (by decide) (by decide) d11_25 (cells' := 1) (slots' := 2) rfl rfl (by decide) (by decide) ?_
  intro r6 h5 hQ sz_h5
  obtain ⟨rfl, rfl⟩ := hQ
  show Go p l e _ s m _ below meth c _ _ _ _ _ _ _ _ _ h1 1 2 (mkF m 28 #[.val .null, .val (.ref vb), .val (.int (2 : Int32)), .val (.int ((0 : Int32) + (1 : Int32))), .val (.ref ki_1)] [(.int (0 : Int32))])
  refine Go.ifY K (q := 37) (by decide) (by decide) d11_28 (show (0 : Int32) = (0 : Int32) from rfl) ?_
  refine Go.iinc K (q := 40) rfl (L' := #[.val .null, .val (.ref vb), .val (.int (2 : Int32)), .val (.int (((0 : Int32) + (1 : Int32)) + (1 : Int32))), .val (.ref ki_1)]) (y := (1 : Int32)) (by decide) d11_37 rfl rfl ?_
  refine Go.goto K (q := 9) (by decide) (by decide) d11_40 ?_
  refine Go.iloadN K (q := 10) rfl d11_9 rfl ?_
  refine Go.iloadN K (q := 11) rfl d11_10 rfl ?_
  refine Go.icmpY K (q := 43) (by decide) (by decide) d11_11 (show ¬ (((0 : Int32) + (1 : Int32)) + (1 : Int32)) < (2 : Int32) from (by decide)) ?_
  refine Go.cS K (q := 46) rfl (y := (⟨"java/util/Optional", "empty", "()Ljava/util/Optional;"⟩ : MethodName)) (c_oem l Z a0 hw xs n0 h1 (Nat.le_trans Z0 E0.1) oe (SE.ext E0)) (hw _ (List.mem_of_getElem? (i := 77) rfl)) (hw _ (List.mem_of_getElem? (i := 78) rfl)) (hw _ (List.mem_of_getElem? (i := 79) rfl)) (hw _ (List.mem_of_getElem? (i := 80) rfl)) (by decide) pd6 (argsL := []) (rest := []) rfl rfl rfl rfl (W := 0) (Nat.le_of_eq rfl) (by decide) (by decide) d11_43 (cells' := 1) (slots' := 2) rfl rfl (by decide) (by decide) ?_
  intro r8 h7 hQ sz_h7
  obtain ⟨rfl, rfl⟩ := hQ
  show Go p l e _ s m _ below meth c _ _ _ _ _ _ _ _ _ h1 1 2 (mkF m 46 #[.val .null, .val (.ref vb), .val (.int (2 : Int32)), .val (.int (((0 : Int32) + (1 : Int32)) + (1 : Int32))), .val (.ref ki_1)] [(.ref oe)])
  exact Go.retA K rfl rfl d11_46 (by decide) (by decide) (fun _ q => q) (⟨oe, rfl, E0, XE.ext E0, FE.ext E0⟩)
set_option maxRecDepth 65536 in
set_option maxHeartbeats 40000000 in
theorem rm0 (l : Launch) (Z : State) (a0 : Array Value) (hw : ∀ d ∈ tables_1, d.before a0 Z = true) (ws : List Jvm.Cond) (xs : List Addr) (n0 : Nat) (h : Heap) (Z0 : n0 ≤ h.size) (mode len : Int32) (lo hig : Int64) (pos ch : Int32) (z : Int32) (Sa : Sta Z h "java/lang/String" "COMPACT_STRINGS" "Z" (.int z)) (hz : ¬ z = 0) (fm : Value) (rf : fm.isRef = true) (Sf : Sta Z h "jdk/internal/util/Preconditions" "SIOOBE_FORMATTER" "Ljava/util/function/BiFunction;" fm) (ki_0 ki_1 : Addr) (va : Addr) (kv : ClassId) (SV : Sta Z h "com/example/tasklane/tasklane/engine/InstanceState" "$VALUES" "[Lcom/example/tasklane/tasklane/engine/InstanceState;" (.ref va)) (AV : Arv Z h va kv (.object "com/example/tasklane/tasklane/engine/InstanceState") (2 : Int32) [.ref ki_0, .ref ki_1] .null) (XV : Exa Z h va "[Lcom/example/tasklane/tasklane/engine/InstanceState;") (si_0 si_1 : Addr) (I_0 : Fld Z h ki_0 "com/example/tasklane/tasklane/engine/InstanceState" "id" "Ljava/lang/String;" (.ref si_0)) (U_0 : Str Z h si_0 [(97 : Int32), (99 : Int32), (116 : Int32), (105 : Int32), (118 : Int32), (101 : Int32)]) (I_1 : Fld Z h ki_1 "com/example/tasklane/tasklane/engine/InstanceState" "id" "Ljava/lang/String;" (.ref si_1)) (U_1 : Str Z h si_1 [(99 : Int32), (111 : Int32), (109 : Int32), (112 : Int32), (108 : Int32), (101 : Int32), (116 : Int32), (101 : Int32), (100 : Int32)]) (oe : Addr) (SE : Sta Z h "java/util/Optional" "EMPTY" "Ljava/util/Optional;" (.ref oe)) (XE : Exa Z h oe "java/util/Optional") (FE : Fld Z h oe "java/util/Optional" "value" "Ljava/lang/Object;" .null) (T_0 : Sta Z h "com/example/tasklane/tasklane/engine/InstanceState" "ACTIVE" "Lcom/example/tasklane/tasklane/engine/InstanceState;" (.ref ki_0)) (X_0 : Exa Z h ki_0 "com/example/tasklane/tasklane/engine/InstanceState") (T_1 : Sta Z h "com/example/tasklane/tasklane/engine/InstanceState" "COMPLETED" "Lcom/example/tasklane/tasklane/engine/InstanceState;" (.ref ki_1)) (X_1 : Exa Z h ki_1 "com/example/tasklane/tasklane/engine/InstanceState") :
    Ctr l Z consts_1 xs n0 x code maxLocals ret ws room_1 #[(.int mode), (.int len), (.long lo), (.long hig), (.int pos), (.int ch)] h (fun v h' => v = some (.int 1)) := by
  refine Ctr.body pn14 ?_
  intro p e s m below meth c K
  have own_atoms := own_atoms0 hw
  refine Go.entry (f' := (mkF m 0 #[.val (.int mode), .val (.int len), .val (.long lo), .second, .val (.long hig), .second, .val (.int pos), .val (.int ch), .unset, .unset, .unset, .unset, .unset, .unset, .unset, .unset, .unset] [])) (by first | (simp [entryFrame, mkF, argsToLocals, Value.category, maxLocals]; done) | rfl) ?_
  have E0 := Ext.refl h
  refine Go.iloadN K (q := 1) rfl at_0 rfl ?_
  refine Go.iconst K (q := 2) rfl (v := (3 : Int32)) (by decide) at_1 ?_
  refine Go.iand K (q := 3) rfl at_2 ?_
  generalize ekd1 : (mode &&& (3 : Int32)) = kd1
  refine Go.istore K (q := 5) rfl (L' := #[.val (.int mode), .val (.int len), .val (.long lo), .second, .val (.long hig), .second, .val (.int pos), .val (.int ch), .val (.int kd1), .unset, .unset, .unset, .unset, .unset, .unset, .unset, .unset]) at_3 rfl ?_
  refine Go.iloadN K (q := 6) rfl at_5 rfl ?_
  refine Go.iconst K (q := 7) rfl (v := (2 : Int32)) (by decide) at_6 ?_
  refine Go.iushr K (q := 8) rfl at_7 ?_
  refine Go.iconst K (q := 9) rfl (v := (3 : Int32)) (by decide) at_8 ?_
  refine Go.iand K (q := 10) rfl at_9 ?_
  generalize esb2 : (((mode.toUInt32 >>> ((2 : Int32) &&& 31).toUInt32).toInt32) &&& (3 : Int32)) = sb2
  refine Go.istore K (q := 12) rfl (L' := #[.val (.int mode), .val (.int len), .val (.long lo), .second, .val (.long hig), .second, .val (.int pos), .val (.int ch), .val (.int kd1), .val (.int sb2), .unset, .unset, .unset, .unset, .unset, .unset, .unset]) at_10 rfl ?_
  refine Go.iload K (q := 14) rfl at_12 rfl ?_
  refine Go.sipush K (q := 17) rfl (v := (255 : Int32)) (by decide) at_14 ?_
  refine Go.iand K (q := 18) rfl at_17 ?_
  refine Go.i2c K (q := 19) rfl at_18 ?_
  generalize ecc3 : (ch &&& (255 : Int32)).toUInt32.toUInt16.toUInt32.toInt32 = cc3
  have hcc : ¬ cc3 < 0 ∧ ¬ (255 : Int32) < cc3 := by rw [← ecc3]; exact own_c8 _
  refine Go.istore K (q := 21) rfl (L' := #[.val (.int mode), .val (.int len), .val (.long lo), .second, .val (.long hig), .second, .val (.int pos), .val (.int ch), .val (.int kd1), .val (.int sb2), .val (.int cc3), .unset, .unset, .unset, .unset, .unset, .unset]) at_19 rfl ?_
  refine Go.iload K (q := 23) rfl at_21 rfl ?_
  refine Go.iconst K (q := 24) rfl (v := (3 : Int32)) (by decide) at_23 ?_
  show Go p l e _ s m _ below meth c _ _ _ _ _ _ _ _ _ h 0 0 (mkF m 24 #[.val (.int mode), .val (.int len), .val (.long lo), .second, .val (.long hig), .second, .val (.int pos), .val (.int ch), .val (.int kd1), .val (.int sb2), .val (.int cc3), .unset, .unset, .unset, .unset, .unset, .unset] [(.int (3 : Int32)), (.int kd1)])
  refine Go.icmp K (q := 33) (q' := 27) (by decide) (by decide) rfl at_24 (fun (hk3 : ¬ kd1 = (3 : Int32)) => ?_) (fun (hk3 : kd1 = (3 : Int32)) => ?_)
  · skip
    refine Go.iload K (q := 35) rfl at_33 rfl ?_
    refine Go.ifc K (q := 155) (q' := 38) (by decide) (by decide) rfl at_35 (fun (hk0 : ¬ kd1 = (0 : Int32)) => ?_) (fun (hk0 : kd1 = (0 : Int32)) => ?_)
    · skip
      refine Go.iload K (q := 157) rfl at_155 rfl ?_
      refine Go.iconst K (q := 158) rfl (v := (1 : Int32)) (by decide) at_157 ?_
      have key : ∀ (hk : Heap) (bs : Addr) (cs : List Int32), Ext h hk → Str Z hk bs cs → (cs.length = 6 ∨ cs.length = 9) → (∀ c ∈ cs, ¬ c < 0 ∧ ¬ (255 : Int32) < c) → Go p l e room_1 s m #[(.int mode), (.int len), (.long lo), (.long hig), (.int pos), (.int ch)] below meth c Z "com/example/tasklane/tasklane/engine/InstanceStateFromIdPinLaw" consts_1 xs n0 room_1.cells room_1.slots (fun v h' => v = some (.int 1)) xs hk 2 40 (mkF m 168 #[.val (.int mode), .val (.int len), .val (.long lo), .second, .val (.long hig), .second, .val (.int pos), .val (.int ch), .val (.int kd1), .val (.int sb2), .val (.int cc3), .unset, .unset, .unset, .unset, .unset, .unset] [(.ref bs)]) := by
        intro hk bs cs E0 S_b hl hr
        have EB := Ext.refl hk
        refine Go.astore K (q := 170) rfl (L' := #[.val (.int mode), .val (.int len), .val (.long lo), .second, .val (.long hig), .second, .val (.int pos), .val (.int ch), .val (.int kd1), .val (.int sb2), .val (.int cc3), .unset, .val (.ref bs), .unset, .unset, .unset, .unset]) at_168 rfl rfl ?_
        refine Go.aload K (q := 172) rfl at_170 rfl rfl ?_
        refine Go.strLen K (q := 175) rfl (own_wordsLen hw) (hw _ (List.mem_of_getElem? (i := 11) rfl)) (hw _ (List.mem_of_getElem? (i := 89) rfl)) (hw _ (List.mem_of_getElem? (i := 90) rfl)) (hw _ (List.mem_of_getElem? (i := 92) rfl)) (hw _ (List.mem_of_getElem? (i := 91) rfl)) (S_b) (Sa.ext E0) hz at_172 (by decide) rfl (W := 0) (Nat.le_of_eq rfl) (by decide) (by decide) (by decide) ?_
        refine Go.istore K (q := 177) rfl (L' := #[.val (.int mode), .val (.int len), .val (.long lo), .second, .val (.long hig), .second, .val (.int pos), .val (.int ch), .val (.int kd1), .val (.int sb2), .val (.int cc3), .unset, .val (.ref bs), .val (.int (Int32.ofNat cs.length)), .unset, .unset, .unset]) at_175 rfl ?_
        refine Go.bipush K (q := 179) rfl (v := (10 : Int32)) (by decide) at_177 ?_
        refine Go.newarr K (q := 181) rfl (hw _ (List.mem_of_getElem? (i := 0) rfl)) at_179 (by decide) (cap := 10) (by decide) (by decide) (cells' := 3) (slots' := 50) rfl rfl (by decide) (by decide) ?_
        intro h4 ca k_ca g_ca N_ca V_ca
        have V_ca : Arv Z h4 ca k_ca .char (10 : Int32) [(.int (0 : Int32)), (.int (0 : Int32)), (.int (0 : Int32)), (.int (0 : Int32)), (.int (0 : Int32)), (.int (0 : Int32)), (.int (0 : Int32)), (.int (0 : Int32)), (.int (0 : Int32)), (.int (0 : Int32))] (.int (0 : Int32)) := V_ca
        have ge_E0_ca : h.size ≤ ca := Nat.le_trans E0.1 (Nat.le_of_eq g_ca.symm)
        have ge_EB_ca : hk.size ≤ ca := Nat.le_trans EB.1 (Nat.le_of_eq g_ca.symm)
        have E0 := Ext.trans E0 N_ca
        have EB := Ext.trans EB N_ca
        have n_ca : n0 ≤ ca := Nat.le_trans Z0 ge_E0_ca
        refine Go.dup K (q := 182) rfl at_181 rfl ?_
        refine Go.iconst K (q := 183) rfl (v := (0 : Int32)) (by decide) at_182 ?_
        refine Go.aload K (q := 185) rfl at_183 rfl rfl ?_
        refine Go.iconst K (q := 186) rfl (v := (0 : Int32)) (by decide) at_185 ?_
        refine Go.cS K (q := 189) rfl (y := (⟨"com/example/tasklane/tasklane/engine/InstanceStateFromIdPinLaw", "at", "(Ljava/lang/String;I)C"⟩ : MethodName)) (c_at l Z a0 hw (ca :: xs) n0 h4 (Nat.le_trans Z0 E0.1) bs _ 0 rfl (by decide) cs (by omega) hr (fun c hc => (hr c hc).2) (S_b.ext EB) z (Sa.ext E0) hz fm rf (Sf.ext E0)) (hw _ (List.mem_of_getElem? (i := 99) rfl)) (hw _ (List.mem_of_getElem? (i := 100) rfl)) (hw _ (List.mem_of_getElem? (i := 3) rfl)) (hw _ (List.mem_of_getElem? (i := 101) rfl)) (by decide) pd8 (argsL := [(.ref bs), (.int (0 : Int32))]) (rest := [(.int (0 : Int32)), (.ref ca), (.ref ca)]) rfl rfl rfl rfl (W := 3) (Nat.le_of_eq rfl) (by decide) (by decide) at_186 (cells' := 3) (slots' := 50) rfl rfl (by decide) (by decide) ?_
        intro r6 h5 hQ sz_h5
        obtain ⟨rfl, rfl⟩ := hQ
        show Go p l e _ s m _ below meth c _ _ _ _ _ _ _ _ _ h4 3 50 (mkF m 189 #[.val (.int mode), .val (.int len), .val (.long lo), .second, .val (.long hig), .second, .val (.int pos), .val (.int ch), .val (.int kd1), .val (.int sb2), .val (.int cc3), .unset, .val (.ref bs), .val (.int (Int32.ofNat cs.length)), .unset, .unset, .unset] [(.int (own_at cs 0)), (.int (0 : Int32)), (.ref ca), (.ref ca)])
        refine Go.castore K (q := 190) rfl V_ca (i := 0) at_189 ⟨by decide, by decide⟩ rfl (Nat.le_of_ble_eq_true rfl) n_ca List.mem_cons_self ?_
        intro h7 W8 V_ca
        have E0 := Ext.wr E0 W8 ge_E0_ca
        have EB := Ext.wr EB W8 ge_EB_ca
        refine Go.dup K (q := 191) rfl at_190 rfl ?_
        refine Go.iconst K (q := 192) rfl (v := (1 : Int32)) (by decide) at_191 ?_
        refine Go.aload K (q := 194) rfl at_192 rfl rfl ?_
        refine Go.iconst K (q := 195) rfl (v := (1 : Int32)) (by decide) at_194 ?_
        refine Go.cS K (q := 198) rfl (y := (⟨"com/example/tasklane/tasklane/engine/InstanceStateFromIdPinLaw", "at", "(Ljava/lang/String;I)C"⟩ : MethodName)) (c_at l Z a0 hw (ca :: xs) n0 h7 (Nat.le_trans Z0 E0.1) bs _ 1 rfl (by decide) cs (by omega) hr (fun c hc => (hr c hc).2) (S_b.ext EB) z (Sa.ext E0) hz fm rf (Sf.ext E0)) (hw _ (List.mem_of_getElem? (i := 99) rfl)) (hw _ (List.mem_of_getElem? (i := 100) rfl)) (hw _ (List.mem_of_getElem? (i := 3) rfl)) (hw _ (List.mem_of_getElem? (i := 101) rfl)) (by decide) pd8 (argsL := [(.ref bs), (.int (1 : Int32))]) (rest := [(.int (1 : Int32)), (.ref ca), (.ref ca)]) rfl rfl rfl rfl (W := 3) (Nat.le_of_eq rfl) (by decide) (by decide) at_195 (cells' := 3) (slots' := 50) rfl rfl (by decide) (by decide) ?_
        intro r10 h9 hQ sz_h9
        obtain ⟨rfl, rfl⟩ := hQ
        show Go p l e _ s m _ below meth c _ _ _ _ _ _ _ _ _ h7 3 50 (mkF m 198 #[.val (.int mode), .val (.int len), .val (.long lo), .second, .val (.long hig), .second, .val (.int pos), .val (.int ch), .val (.int kd1), .val (.int sb2), .val (.int cc3), .unset, .val (.ref bs), .val (.int (Int32.ofNat cs.length)), .unset, .unset, .unset] [(.int (own_at cs 1)), (.int (1 : Int32)), (.ref ca), (.ref ca)])
        refine Go.castore K (q := 199) rfl V_ca (i := 1) at_198 ⟨by decide, by decide⟩ rfl (Nat.le_of_ble_eq_true rfl) n_ca List.mem_cons_self ?_
        intro h11 W12 V_ca
        have E0 := Ext.wr E0 W12 ge_E0_ca
        have EB := Ext.wr EB W12 ge_EB_ca
        refine Go.dup K (q := 200) rfl at_199 rfl ?_
        refine Go.iconst K (q := 201) rfl (v := (2 : Int32)) (by decide) at_200 ?_
        refine Go.aload K (q := 203) rfl at_201 rfl rfl ?_
        refine Go.iconst K (q := 204) rfl (v := (2 : Int32)) (by decide) at_203 ?_
        refine Go.cS K (q := 207) rfl (y := (⟨"com/example/tasklane/tasklane/engine/InstanceStateFromIdPinLaw", "at", "(Ljava/lang/String;I)C"⟩ : MethodName)) (c_at l Z a0 hw (ca :: xs) n0 h11 (Nat.le_trans Z0 E0.1) bs _ 2 rfl (by decide) cs (by omega) hr (fun c hc => (hr c hc).2) (S_b.ext EB) z (Sa.ext E0) hz fm rf (Sf.ext E0)) (hw _ (List.mem_of_getElem? (i := 99) rfl)) (hw _ (List.mem_of_getElem? (i := 100) rfl)) (hw _ (List.mem_of_getElem? (i := 3) rfl)) (hw _ (List.mem_of_getElem? (i := 101) rfl)) (by decide) pd8 (argsL := [(.ref bs), (.int (2 : Int32))]) (rest := [(.int (2 : Int32)), (.ref ca), (.ref ca)]) rfl rfl rfl rfl (W := 3) (Nat.le_of_eq rfl) (by decide) (by decide) at_204 (cells' := 3) (slots' := 50) rfl rfl (by decide) (by decide) ?_
        intro r14 h13 hQ sz_h13
        obtain ⟨rfl, rfl⟩ := hQ
        show Go p l e _ s m _ below meth c _ _ _ _ _ _ _ _ _ h11 3 50 (mkF m 207 #[.val (.int mode), .val (.int len), .val (.long lo), .second, .val (.long hig), .second, .val (.int pos), .val (.int ch), .val (.int kd1), .val (.int sb2), .val (.int cc3), .unset, .val (.ref bs), .val (.int (Int32.ofNat cs.length)), .unset, .unset, .unset] [(.int (own_at cs 2)), (.int (2 : Int32)), (.ref ca), (.ref ca)])
        refine Go.castore K (q := 208) rfl V_ca (i := 2) at_207 ⟨by decide, by decide⟩ rfl (Nat.le_of_ble_eq_true rfl) n_ca List.mem_cons_self ?_
        intro h15 W16 V_ca
        have E0 := Ext.wr E0 W16 ge_E0_ca
        have EB := Ext.wr EB W16 ge_EB_ca
        refine Go.dup K (q := 209) rfl at_208 rfl ?_
        refine Go.iconst K (q := 210) rfl (v := (3 : Int32)) (by decide) at_209 ?_
        refine Go.aload K (q := 212) rfl at_210 rfl rfl ?_
        refine Go.iconst K (q := 213) rfl (v := (3 : Int32)) (by decide) at_212 ?_
        refine Go.cS K (q := 216) rfl (y := (⟨"com/example/tasklane/tasklane/engine/InstanceStateFromIdPinLaw", "at", "(Ljava/lang/String;I)C"⟩ : MethodName)) (c_at l Z a0 hw (ca :: xs) n0 h15 (Nat.le_trans Z0 E0.1) bs _ 3 rfl (by decide) cs (by omega) hr (fun c hc => (hr c hc).2) (S_b.ext EB) z (Sa.ext E0) hz fm rf (Sf.ext E0)) (hw _ (List.mem_of_getElem? (i := 99) rfl)) (hw _ (List.mem_of_getElem? (i := 100) rfl)) (hw _ (List.mem_of_getElem? (i := 3) rfl)) (hw _ (List.mem_of_getElem? (i := 101) rfl)) (by decide) pd8 (argsL := [(.ref bs), (.int (3 : Int32))]) (rest := [(.int (3 : Int32)), (.ref ca), (.ref ca)]) rfl rfl rfl rfl (W := 3) (Nat.le_of_eq rfl) (by decide) (by decide) at_213 (cells' := 3) (slots' := 50) rfl rfl (by decide) (by decide) ?_
        intro r18 h17 hQ sz_h17
        obtain ⟨rfl, rfl⟩ := hQ
        show Go p l e _ s m _ below meth c _ _ _ _ _ _ _ _ _ h15 3 50 (mkF m 216 #[.val (.int mode), .val (.int len), .val (.long lo), .second, .val (.long hig), .second, .val (.int pos), .val (.int ch), .val (.int kd1), .val (.int sb2), .val (.int cc3), .unset, .val (.ref bs), .val (.int (Int32.ofNat cs.length)), .unset, .unset, .unset] [(.int (own_at cs 3)), (.int (3 : Int32)), (.ref ca), (.ref ca)])
        refine Go.castore K (q := 217) rfl V_ca (i := 3) at_216 ⟨by decide, by decide⟩ rfl (Nat.le_of_ble_eq_true rfl) n_ca List.mem_cons_self ?_
        intro h19 W20 V_ca
        have E0 := Ext.wr E0 W20 ge_E0_ca
        have EB := Ext.wr EB W20 ge_EB_ca
        refine Go.dup K (q := 218) rfl at_217 rfl ?_
        refine Go.iconst K (q := 219) rfl (v := (4 : Int32)) (by decide) at_218 ?_
        refine Go.aload K (q := 221) rfl at_219 rfl rfl ?_
        refine Go.iconst K (q := 222) rfl (v := (4 : Int32)) (by decide) at_221 ?_
        refine Go.cS K (q := 225) rfl (y := (⟨"com/example/tasklane/tasklane/engine/InstanceStateFromIdPinLaw", "at", "(Ljava/lang/String;I)C"⟩ : MethodName)) (c_at l Z a0 hw (ca :: xs) n0 h19 (Nat.le_trans Z0 E0.1) bs _ 4 rfl (by decide) cs (by omega) hr (fun c hc => (hr c hc).2) (S_b.ext EB) z (Sa.ext E0) hz fm rf (Sf.ext E0)) (hw _ (List.mem_of_getElem? (i := 99) rfl)) (hw _ (List.mem_of_getElem? (i := 100) rfl)) (hw _ (List.mem_of_getElem? (i := 3) rfl)) (hw _ (List.mem_of_getElem? (i := 101) rfl)) (by decide) pd8 (argsL := [(.ref bs), (.int (4 : Int32))]) (rest := [(.int (4 : Int32)), (.ref ca), (.ref ca)]) rfl rfl rfl rfl (W := 3) (Nat.le_of_eq rfl) (by decide) (by decide) at_222 (cells' := 3) (slots' := 50) rfl rfl (by decide) (by decide) ?_
        intro r22 h21 hQ sz_h21
        obtain ⟨rfl, rfl⟩ := hQ
        show Go p l e _ s m _ below meth c _ _ _ _ _ _ _ _ _ h19 3 50 (mkF m 225 #[.val (.int mode), .val (.int len), .val (.long lo), .second, .val (.long hig), .second, .val (.int pos), .val (.int ch), .val (.int kd1), .val (.int sb2), .val (.int cc3), .unset, .val (.ref bs), .val (.int (Int32.ofNat cs.length)), .unset, .unset, .unset] [(.int (own_at cs 4)), (.int (4 : Int32)), (.ref ca), (.ref ca)])
        refine Go.castore K (q := 226) rfl V_ca (i := 4) at_225 ⟨by decide, by decide⟩ rfl (Nat.le_of_ble_eq_true rfl) n_ca List.mem_cons_self ?_
        intro h23 W24 V_ca
        have E0 := Ext.wr E0 W24 ge_E0_ca
        have EB := Ext.wr EB W24 ge_EB_ca
        refine Go.dup K (q := 227) rfl at_226 rfl ?_
        refine Go.iconst K (q := 228) rfl (v := (5 : Int32)) (by decide) at_227 ?_
        refine Go.aload K (q := 230) rfl at_228 rfl rfl ?_
        refine Go.iconst K (q := 231) rfl (v := (5 : Int32)) (by decide) at_230 ?_
        refine Go.cS K (q := 234) rfl (y := (⟨"com/example/tasklane/tasklane/engine/InstanceStateFromIdPinLaw", "at", "(Ljava/lang/String;I)C"⟩ : MethodName)) (c_at l Z a0 hw (ca :: xs) n0 h23 (Nat.le_trans Z0 E0.1) bs _ 5 rfl (by decide) cs (by omega) hr (fun c hc => (hr c hc).2) (S_b.ext EB) z (Sa.ext E0) hz fm rf (Sf.ext E0)) (hw _ (List.mem_of_getElem? (i := 99) rfl)) (hw _ (List.mem_of_getElem? (i := 100) rfl)) (hw _ (List.mem_of_getElem? (i := 3) rfl)) (hw _ (List.mem_of_getElem? (i := 101) rfl)) (by decide) pd8 (argsL := [(.ref bs), (.int (5 : Int32))]) (rest := [(.int (5 : Int32)), (.ref ca), (.ref ca)]) rfl rfl rfl rfl (W := 3) (Nat.le_of_eq rfl) (by decide) (by decide) at_231 (cells' := 3) (slots' := 50) rfl rfl (by decide) (by decide) ?_
        intro r26 h25 hQ sz_h25
        obtain ⟨rfl, rfl⟩ := hQ
        show Go p l e _ s m _ below meth c _ _ _ _ _ _ _ _ _ h23 3 50 (mkF m 234 #[.val (.int mode), .val (.int len), .val (.long lo), .second, .val (.long hig), .second, .val (.int pos), .val (.int ch), .val (.int kd1), .val (.int sb2), .val (.int cc3), .unset, .val (.ref bs), .val (.int (Int32.ofNat cs.length)), .unset, .unset, .unset] [(.int (own_at cs 5)), (.int (5 : Int32)), (.ref ca), (.ref ca)])
        refine Go.castore K (q := 235) rfl V_ca (i := 5) at_234 ⟨by decide, by decide⟩ rfl (Nat.le_of_ble_eq_true rfl) n_ca List.mem_cons_self ?_
        intro h27 W28 V_ca
        have E0 := Ext.wr E0 W28 ge_E0_ca
        have EB := Ext.wr EB W28 ge_EB_ca
        refine Go.dup K (q := 236) rfl at_235 rfl ?_
        refine Go.bipush K (q := 238) rfl (v := (6 : Int32)) (by decide) at_236 ?_
        refine Go.aload K (q := 240) rfl at_238 rfl rfl ?_
        refine Go.bipush K (q := 242) rfl (v := (6 : Int32)) (by decide) at_240 ?_
        refine Go.cS K (q := 245) rfl (y := (⟨"com/example/tasklane/tasklane/engine/InstanceStateFromIdPinLaw", "at", "(Ljava/lang/String;I)C"⟩ : MethodName)) (c_at l Z a0 hw (ca :: xs) n0 h27 (Nat.le_trans Z0 E0.1) bs _ 6 rfl (by decide) cs (by omega) hr (fun c hc => (hr c hc).2) (S_b.ext EB) z (Sa.ext E0) hz fm rf (Sf.ext E0)) (hw _ (List.mem_of_getElem? (i := 99) rfl)) (hw _ (List.mem_of_getElem? (i := 100) rfl)) (hw _ (List.mem_of_getElem? (i := 3) rfl)) (hw _ (List.mem_of_getElem? (i := 101) rfl)) (by decide) pd8 (argsL := [(.ref bs), (.int (6 : Int32))]) (rest := [(.int (6 : Int32)), (.ref ca), (.ref ca)]) rfl rfl rfl rfl (W := 3) (Nat.le_of_eq rfl) (by decide) (by decide) at_242 (cells' := 3) (slots' := 50) rfl rfl (by decide) (by decide) ?_
        intro r30 h29 hQ sz_h29
        obtain ⟨rfl, rfl⟩ := hQ
        show Go p l e _ s m _ below meth c _ _ _ _ _ _ _ _ _ h27 3 50 (mkF m 245 #[.val (.int mode), .val (.int len), .val (.long lo), .second, .val (.long hig), .second, .val (.int pos), .val (.int ch), .val (.int kd1), .val (.int sb2), .val (.int cc3), .unset, .val (.ref bs), .val (.int (Int32.ofNat cs.length)), .unset, .unset, .unset] [(.int (own_at cs 6)), (.int (6 : Int32)), (.ref ca), (.ref ca)])
        refine Go.castore K (q := 246) rfl V_ca (i := 6) at_245 ⟨by decide, by decide⟩ rfl (Nat.le_of_ble_eq_true rfl) n_ca List.mem_cons_self ?_
        intro h31 W32 V_ca
        have E0 := Ext.wr E0 W32 ge_E0_ca
        have EB := Ext.wr EB W32 ge_EB_ca
        refine Go.dup K (q := 247) rfl at_246 rfl ?_
        refine Go.bipush K (q := 249) rfl (v := (7 : Int32)) (by decide) at_247 ?_
        refine Go.aload K (q := 251) rfl at_249 rfl rfl ?_
        refine Go.bipush K (q := 253) rfl (v := (7 : Int32)) (by decide) at_251 ?_
        refine Go.cS K (q := 256) rfl (y := (⟨"com/example/tasklane/tasklane/engine/InstanceStateFromIdPinLaw", "at", "(Ljava/lang/String;I)C"⟩ : MethodName)) (c_at l Z a0 hw (ca :: xs) n0 h31 (Nat.le_trans Z0 E0.1) bs _ 7 rfl (by decide) cs (by omega) hr (fun c hc => (hr c hc).2) (S_b.ext EB) z (Sa.ext E0) hz fm rf (Sf.ext E0)) (hw _ (List.mem_of_getElem? (i := 99) rfl)) (hw _ (List.mem_of_getElem? (i := 100) rfl)) (hw _ (List.mem_of_getElem? (i := 3) rfl)) (hw _ (List.mem_of_getElem? (i := 101) rfl)) (by decide) pd8 (argsL := [(.ref bs), (.int (7 : Int32))]) (rest := [(.int (7 : Int32)), (.ref ca), (.ref ca)]) rfl rfl rfl rfl (W := 3) (Nat.le_of_eq rfl) (by decide) (by decide) at_253 (cells' := 3) (slots' := 50) rfl rfl (by decide) (by decide) ?_
        intro r34 h33 hQ sz_h33
        obtain ⟨rfl, rfl⟩ := hQ
        show Go p l e _ s m _ below meth c _ _ _ _ _ _ _ _ _ h31 3 50 (mkF m 256 #[.val (.int mode), .val (.int len), .val (.long lo), .second, .val (.long hig), .second, .val (.int pos), .val (.int ch), .val (.int kd1), .val (.int sb2), .val (.int cc3), .unset, .val (.ref bs), .val (.int (Int32.ofNat cs.length)), .unset, .unset, .unset] [(.int (own_at cs 7)), (.int (7 : Int32)), (.ref ca), (.ref ca)])
        refine Go.castore K (q := 257) rfl V_ca (i := 7) at_256 ⟨by decide, by decide⟩ rfl (Nat.le_of_ble_eq_true rfl) n_ca List.mem_cons_self ?_
        intro h35 W36 V_ca
        have E0 := Ext.wr E0 W36 ge_E0_ca
        have EB := Ext.wr EB W36 ge_EB_ca
        refine Go.dup K (q := 258) rfl at_257 rfl ?_
        refine Go.bipush K (q := 260) rfl (v := (8 : Int32)) (by decide) at_258 ?_
        refine Go.aload K (q := 262) rfl at_260 rfl rfl ?_
        refine Go.bipush K (q := 264) rfl (v := (8 : Int32)) (by decide) at_262 ?_
        refine Go.cS K (q := 267) rfl (y := (⟨"com/example/tasklane/tasklane/engine/InstanceStateFromIdPinLaw", "at", "(Ljava/lang/String;I)C"⟩ : MethodName)) (c_at l Z a0 hw (ca :: xs) n0 h35 (Nat.le_trans Z0 E0.1) bs _ 8 rfl (by decide) cs (by omega) hr (fun c hc => (hr c hc).2) (S_b.ext EB) z (Sa.ext E0) hz fm rf (Sf.ext E0)) (hw _ (List.mem_of_getElem? (i := 99) rfl)) (hw _ (List.mem_of_getElem? (i := 100) rfl)) (hw _ (List.mem_of_getElem? (i := 3) rfl)) (hw _ (List.mem_of_getElem? (i := 101) rfl)) (by decide) pd8 (argsL := [(.ref bs), (.int (8 : Int32))]) (rest := [(.int (8 : Int32)), (.ref ca), (.ref ca)]) rfl rfl rfl rfl (W := 3) (Nat.le_of_eq rfl) (by decide) (by decide) at_264 (cells' := 3) (slots' := 50) rfl rfl (by decide) (by decide) ?_
        intro r38 h37 hQ sz_h37
        obtain ⟨rfl, rfl⟩ := hQ
        show Go p l e _ s m _ below meth c _ _ _ _ _ _ _ _ _ h35 3 50 (mkF m 267 #[.val (.int mode), .val (.int len), .val (.long lo), .second, .val (.long hig), .second, .val (.int pos), .val (.int ch), .val (.int kd1), .val (.int sb2), .val (.int cc3), .unset, .val (.ref bs), .val (.int (Int32.ofNat cs.length)), .unset, .unset, .unset] [(.int (own_at cs 8)), (.int (8 : Int32)), (.ref ca), (.ref ca)])
        refine Go.castore K (q := 268) rfl V_ca (i := 8) at_267 ⟨by decide, by decide⟩ rfl (Nat.le_of_ble_eq_true rfl) n_ca List.mem_cons_self ?_
        intro h39 W40 V_ca
        have E0 := Ext.wr E0 W40 ge_E0_ca
        have EB := Ext.wr EB W40 ge_EB_ca
        refine Go.dup K (q := 269) rfl at_268 rfl ?_
        refine Go.bipush K (q := 271) rfl (v := (9 : Int32)) (by decide) at_269 ?_
        refine Go.aload K (q := 273) rfl at_271 rfl rfl ?_
        refine Go.bipush K (q := 275) rfl (v := (9 : Int32)) (by decide) at_273 ?_
        refine Go.cS K (q := 278) rfl (y := (⟨"com/example/tasklane/tasklane/engine/InstanceStateFromIdPinLaw", "at", "(Ljava/lang/String;I)C"⟩ : MethodName)) (c_at l Z a0 hw (ca :: xs) n0 h39 (Nat.le_trans Z0 E0.1) bs _ 9 rfl (by decide) cs (by omega) hr (fun c hc => (hr c hc).2) (S_b.ext EB) z (Sa.ext E0) hz fm rf (Sf.ext E0)) (hw _ (List.mem_of_getElem? (i := 99) rfl)) (hw _ (List.mem_of_getElem? (i := 100) rfl)) (hw _ (List.mem_of_getElem? (i := 3) rfl)) (hw _ (List.mem_of_getElem? (i := 101) rfl)) (by decide) pd8 (argsL := [(.ref bs), (.int (9 : Int32))]) (rest := [(.int (9 : Int32)), (.ref ca), (.ref ca)]) rfl rfl rfl rfl (W := 3) (Nat.le_of_eq rfl) (by decide) (by decide) at_275 (cells' := 3) (slots' := 50) rfl rfl (by decide) (by decide) ?_
        intro r42 h41 hQ sz_h41
        obtain ⟨rfl, rfl⟩ := hQ
        show Go p l e _ s m _ below meth c _ _ _ _ _ _ _ _ _ h39 3 50 (mkF m 278 #[.val (.int mode), .val (.int len), .val (.long lo), .second, .val (.long hig), .second, .val (.int pos), .val (.int ch), .val (.int kd1), .val (.int sb2), .val (.int cc3), .unset, .val (.ref bs), .val (.int (Int32.ofNat cs.length)), .unset, .unset, .unset] [(.int (own_at cs 9)), (.int (9 : Int32)), (.ref ca), (.ref ca)])
        refine Go.castore K (q := 279) rfl V_ca (i := 9) at_278 ⟨by decide, by decide⟩ rfl (Nat.le_of_ble_eq_true rfl) n_ca List.mem_cons_self ?_
        intro h43 W44 V_ca
        have E0 := Ext.wr E0 W44 ge_E0_ca
        have EB := Ext.wr EB W44 ge_EB_ca
        refine Go.astore K (q := 281) rfl (L' := #[.val (.int mode), .val (.int len), .val (.long lo), .second, .val (.long hig), .second, .val (.int pos), .val (.int ch), .val (.int kd1), .val (.int sb2), .val (.int cc3), .unset, .val (.ref bs), .val (.int (Int32.ofNat cs.length)), .val (.ref ca), .unset, .unset]) at_279 rfl rfl ?_
        refine Go.iload K (q := 283) rfl at_281 rfl ?_
        refine Go.ldcInt K (q := 285) rfl (v := (2147483647 : Int32)) (hw _ (List.mem_of_getElem? (i := 6) rfl)) at_283 ?_
        refine Go.iand K (q := 286) rfl at_285 ?_
        refine Go.iload K (q := 288) rfl at_286 rfl ?_
        rw [own_nc (own_atr hr 0), own_nc (own_atr hr 1), own_nc (own_atr hr 2), own_nc (own_atr hr 3), own_nc (own_atr hr 4), own_nc (own_atr hr 5), own_nc (own_atr hr 6), own_nc (own_atr hr 7), own_nc (own_atr hr 8), own_nc (own_atr hr 9)] at V_ca
        refine Go.irem K (q := 289) rfl at_288 (by rcases hl with q | q <;> rw [q] <;> decide) ?_
        obtain ⟨i, hi, ep⟩ := own_mod pos cs.length (by omega) (by omega)
        rw [ep]
        show Go p l e _ s m _ below meth c _ _ _ _ _ _ _ _ _ h43 3 50 (mkF m 289 #[.val (.int mode), .val (.int len), .val (.long lo), .second, .val (.long hig), .second, .val (.int pos), .val (.int ch), .val (.int kd1), .val (.int sb2), .val (.int cc3), .unset, .val (.ref bs), .val (.int (Int32.ofNat cs.length)), .val (.ref ca), .unset, .unset] [(.int (Int32.ofNat i))])
        refine Go.istore K (q := 291) rfl (L' := #[.val (.int mode), .val (.int len), .val (.long lo), .second, .val (.long hig), .second, .val (.int pos), .val (.int ch), .val (.int kd1), .val (.int sb2), .val (.int cc3), .unset, .val (.ref bs), .val (.int (Int32.ofNat cs.length)), .val (.ref ca), .val (.int (Int32.ofNat i)), .unset]) at_289 rfl ?_
        refine Go.iload K (q := 293) rfl at_291 rfl ?_
        refine Go.istore K (q := 295) rfl (L' := #[.val (.int mode), .val (.int len), .val (.long lo), .second, .val (.long hig), .second, .val (.int pos), .val (.int ch), .val (.int kd1), .val (.int sb2), .val (.int cc3), .unset, .val (.ref bs), .val (.int (Int32.ofNat cs.length)), .val (.ref ca), .val (.int (Int32.ofNat i)), .val (.int (Int32.ofNat cs.length))]) at_293 rfl ?_
        have key3 : ∀ (hm : Heap) (L : List Int32) (mm : Nat), Ext h hm → Arv Z hm ca k_ca .char (10 : Int32) (L.map Value.int) (.int (0 : Int32)) → L.length = 10 → (∀ c ∈ L, ¬ c < 0 ∧ ¬ (255 : Int32) < c) → mm ≤ 10 → Go p l e room_1 s m #[(.int mode), (.int len), (.long lo), (.long hig), (.int pos), (.int ch)] below meth c Z "com/example/tasklane/tasklane/engine/InstanceStateFromIdPinLaw" consts_1 xs n0 room_1.cells room_1.slots (fun v h' => v = some (.int 1)) (ca :: xs) hm 3 50 (mkF m 343 #[.val (.int mode), .val (.int len), .val (.long lo), .second, .val (.long hig), .second, .val (.int pos), .val (.int ch), .val (.int kd1), .val (.int sb2), .val (.int cc3), .unset, .val (.ref bs), .val (.int (Int32.ofNat cs.length)), .val (.ref ca), .val (.int (Int32.ofNat i)), .val (.int (Int32.ofNat mm))] []) := by
          intro hm L mm E0 V_ca hL hr hmm
          obtain ⟨c0, c1, c2, c3, c4, c5, c6, c7, c8, c9, rfl⟩ := own_ten hL
          refine Go.aload K (q := 345) rfl at_343 rfl rfl ?_
          refine Go.iload K (q := 347) rfl at_345 rfl ?_
          refine Go.cS K (q := 350) rfl (y := (⟨"com/example/tasklane/tasklane/engine/InstanceStateFromIdPinLaw", "prefix", "([CI)Ljava/lang/String;"⟩ : MethodName)) (c_pre l Z a0 hw (ca :: xs) n0 hm (Nat.le_trans Z0 E0.1) ca _ mm hmm c0 c1 c2 c3 c4 c5 c6 c7 c8 c9 (hr c0 (by simp)) (hr c1 (by simp)) (hr c2 (by simp)) (hr c3 (by simp)) (hr c4 (by simp)) (hr c5 (by simp)) (hr c6 (by simp)) (hr c7 (by simp)) (hr c8 (by simp)) (hr c9 (by simp)) V_ca z (Sa.ext E0) hz) (hw _ (List.mem_of_getElem? (i := 7) rfl)) (hw _ (List.mem_of_getElem? (i := 8) rfl)) (hw _ (List.mem_of_getElem? (i := 3) rfl)) (hw _ (List.mem_of_getElem? (i := 9) rfl)) (by decide) pd9 (argsL := [(.ref ca), (.int (Int32.ofNat mm))]) (rest := []) rfl rfl rfl rfl (W := 0) (Nat.le_of_eq rfl) (by decide) (by decide) at_347 (cells' := 9) (slots' := 74) rfl rfl (by decide) (by decide) ?_
          intro r46 h45 hQ sz_h45
          obtain ⟨st, cst, rfl, N_st, S_st⟩ := hQ
          have E0 := Ext.trans E0 N_st
          show Go p l e _ s m _ below meth c _ _ _ _ _ _ _ _ _ h45 9 74 (mkF m 350 #[.val (.int mode), .val (.int len), .val (.long lo), .second, .val (.long hig), .second, .val (.int pos), .val (.int ch), .val (.int kd1), .val (.int sb2), .val (.int cc3), .unset, .val (.ref bs), .val (.int (Int32.ofNat cs.length)), .val (.ref ca), .val (.int (Int32.ofNat i)), .val (.int (Int32.ofNat mm))] [(.ref st)])
          refine Go.astore K (q := 352) rfl (L' := #[.val (.int mode), .val (.int len), .val (.long lo), .second, .val (.long hig), .second, .val (.int pos), .val (.int ch), .val (.int kd1), .val (.int sb2), .val (.int cc3), .val (.ref st), .val (.ref bs), .val (.int (Int32.ofNat cs.length)), .val (.ref ca), .val (.int (Int32.ofNat i)), .val (.int (Int32.ofNat mm))]) at_350 rfl rfl ?_
          refine Go.aconstNull K (q := 353) rfl at_352 ?_
          refine Go.astore K (q := 355) rfl (L' := #[.val (.int mode), .val (.int len), .val (.long lo), .second, .val (.long hig), .second, .val (.int pos), .val (.int ch), .val (.int kd1), .val (.int sb2), .val (.int cc3), .val (.ref st), .val .null, .val (.int (Int32.ofNat cs.length)), .val (.ref ca), .val (.int (Int32.ofNat i)), .val (.int (Int32.ofNat mm))]) at_353 rfl rfl ?_
          refine Go.aload K (q := 357) rfl at_355 rfl rfl ?_
          refine Go.ifnullN K (q := 360) rfl at_357 ?_
          refine Go.aload K (q := 362) rfl at_360 rfl rfl ?_
          have E3 := Ext.refl h45
          refine Go.ldcS K (q := 364) rfl (text := "active") (by decide) (hw _ (List.mem_of_getElem? (i := 39) rfl)) own_atoms (by decide) at_362 (n := 24) (by decide) (by decide) (cells' := 11) (slots' := 102) rfl rfl (by decide) (by decide) ?_
          intro h47 s48 N_s48 T_s48
          have E0 := Ext.trans E0 N_s48
          have E3 := Ext.trans E3 N_s48
          have S_l : Str Z h47 s48 [(97 : Int32), (99 : Int32), (116 : Int32), (105 : Int32), (118 : Int32), (101 : Int32)] := by rw [← own_t0]; exact Str.lit (by decide) (by decide) T_s48
          refine Go.strEq K (q := 367) rfl (own_wordsEq hw) (hw _ (List.mem_of_getElem? (i := 11) rfl)) (y := (⟨"java/lang/String", "equals", "(Ljava/lang/Object;)Z"⟩ : MethodName)) (hw _ (List.mem_of_getElem? (i := 42) rfl)) (hw _ (List.mem_of_getElem? (i := 43) rfl)) (nfS (hw _ (List.mem_of_getElem? (i := 45) rfl))) (hw _ (List.mem_of_getElem? (i := 45) rfl)) (hw _ (List.mem_of_getElem? (i := 44) rfl)) (by decide) rfl (S_st.ext E3) (S_l) (Sa.ext E0) hz at_364 (by decide) rfl (W := 0) (Nat.le_of_eq rfl) (by decide) (by decide) (by decide) (fun e0 => ?_) (fun e0 => ?_)
          · skip
            refine Go.ifN K (q := 370) rfl at_367 (show ¬ (1 : Int32) = (0 : Int32) from (by decide)) ?_
            refine Go.getS K (q := 373) rfl (hw _ (List.mem_of_getElem? (i := 145) rfl)) Via.refl ((T_0.ext E0)) at_370 ?_
            refine Go.astore K (q := 375) rfl (L' := #[.val (.int mode), .val (.int len), .val (.long lo), .second, .val (.long hig), .second, .val (.int pos), .val (.int ch), .val (.int kd1), .val (.int sb2), .val (.int cc3), .val (.ref st), .val (.ref ki_0), .val (.int (Int32.ofNat cs.length)), .val (.ref ca), .val (.int (Int32.ofNat i)), .val (.int (Int32.ofNat mm))]) at_373 rfl rfl ?_
            refine Go.goto K (q := 393) (by decide) (by decide) at_375 ?_
            refine Go.aload K (q := 395) rfl at_393 rfl rfl ?_
            refine Go.cS K (q := 398) rfl (y := (⟨"com/example/tasklane/tasklane/engine/InstanceState", "fromId", "(Ljava/lang/String;)Ljava/util/Optional;"⟩ : MethodName)) (c_from l Z a0 hw (ca :: xs) n0 h47 (Nat.le_trans Z0 E0.1) st _ (S_st.ext E3) z (Sa.ext E0) hz ki_0 ki_1 va kv (SV.ext E0) (AV.ext E0) (XV.ext E0) si_0 si_1 (I_0.ext E0) (U_0.ext E0) (I_1.ext E0) (U_1.ext E0) oe (SE.ext E0) (XE.ext E0) (FE.ext E0)) (hw _ (List.mem_of_getElem? (i := 53) rfl)) (hw _ (List.mem_of_getElem? (i := 54) rfl)) (hw _ (List.mem_of_getElem? (i := 55) rfl)) (hw _ (List.mem_of_getElem? (i := 56) rfl)) (by decide) pd10 (argsL := [(.ref st)]) (rest := []) rfl rfl rfl rfl (W := 0) (Nat.le_of_eq rfl) (by decide) (by decide) at_395 (cells' := 13) (slots' := 105) rfl rfl (by decide) (by decide) ?_
            intro r50 h49 hQ sz_h49
            obtain ⟨oo, rfl, N_o, X_o, F_o⟩ := hQ
            have E0 := Ext.trans E0 N_o
            have E3 := Ext.trans E3 N_o
            show Go p l e _ s m _ below meth c _ _ _ _ _ _ _ _ _ h49 13 105 (mkF m 398 #[.val (.int mode), .val (.int len), .val (.long lo), .second, .val (.long hig), .second, .val (.int pos), .val (.int ch), .val (.int kd1), .val (.int sb2), .val (.int cc3), .val (.ref st), .val (.ref ki_0), .val (.int (Int32.ofNat cs.length)), .val (.ref ca), .val (.int (Int32.ofNat i)), .val (.int (Int32.ofNat mm))] [(.ref oo)])
            rw [own_find, if_pos e0.symm] at F_o
            refine Go.astore K (q := 400) rfl (L' := #[.val (.int mode), .val (.int len), .val (.long lo), .second, .val (.long hig), .second, .val (.int pos), .val (.int ch), .val (.int kd1), .val (.int sb2), .val (.int cc3), .val (.ref st), .val (.ref ki_0), .val (.ref oo), .val (.ref ca), .val (.int (Int32.ofNat i)), .val (.int (Int32.ofNat mm))]) at_398 rfl rfl ?_
            refine Go.aload K (q := 402) rfl at_400 rfl rfl ?_
            refine Go.ifnonnullY K (q := 407) (by decide) (by decide) at_402 ?_
            refine Go.aload K (q := 409) rfl at_407 rfl rfl ?_
            refine Go.cV K (q := 412) rfl (y := (⟨"java/util/Optional", "isPresent", "()Z"⟩ : MethodName)) (z := (⟨"java/util/Optional", "isPresent", "()Z"⟩ : MethodName)) (c_oip1 l Z a0 hw (ca :: xs) n0 h49 (Nat.le_trans Z0 E0.1) oo ki_0 F_o) (hw _ (List.mem_of_getElem? (i := 82) rfl)) (hw _ (List.mem_of_getElem? (i := 83) rfl)) (nfS (hw _ (List.mem_of_getElem? (i := 85) rfl))) (hw _ (List.mem_of_getElem? (i := 85) rfl)) (hw _ (List.mem_of_getElem? (i := 84) rfl)) (hw _ (List.mem_of_getElem? (i := 79) rfl)) (hw _ (List.mem_of_getElem? (i := 86) rfl)) (by decide) (isa_of X_o) pd11 (argsL := []) (rest := []) rfl rfl rfl rfl (W := 0) (Nat.le_of_eq rfl) (by decide) (by decide) at_409 (cells' := 13) (slots' := 105) rfl rfl (by decide) (by decide) ?_
            intro r52 h51 hQ sz_h51
            obtain ⟨rfl, rfl⟩ := hQ
            show Go p l e _ s m _ below meth c _ _ _ _ _ _ _ _ _ h49 13 105 (mkF m 412 #[.val (.int mode), .val (.int len), .val (.long lo), .second, .val (.long hig), .second, .val (.int pos), .val (.int ch), .val (.int kd1), .val (.int sb2), .val (.int cc3), .val (.ref st), .val (.ref ki_0), .val (.ref oo), .val (.ref ca), .val (.int (Int32.ofNat i)), .val (.int (Int32.ofNat mm))] [(.int (1 : Int32))])
            refine Go.ifN K (q := 415) rfl at_412 (show ¬ (1 : Int32) = (0 : Int32) from (by decide)) ?_
            refine Go.aload K (q := 417) rfl at_415 rfl rfl ?_
            refine Go.cV K (q := 420) rfl (y := (⟨"java/util/Optional", "get", "()Ljava/lang/Object;"⟩ : MethodName)) (z := (⟨"java/util/Optional", "get", "()Ljava/lang/Object;"⟩ : MethodName)) (c_og l Z a0 hw (ca :: xs) n0 h49 (Nat.le_trans Z0 E0.1) oo ki_0 F_o) (hw _ (List.mem_of_getElem? (i := 138) rfl)) (hw _ (List.mem_of_getElem? (i := 139) rfl)) (nfS (hw _ (List.mem_of_getElem? (i := 141) rfl))) (hw _ (List.mem_of_getElem? (i := 141) rfl)) (hw _ (List.mem_of_getElem? (i := 140) rfl)) (hw _ (List.mem_of_getElem? (i := 79) rfl)) (hw _ (List.mem_of_getElem? (i := 142) rfl)) (by decide) (isa_of X_o) pd12 (argsL := []) (rest := []) rfl rfl rfl rfl (W := 0) (Nat.le_of_eq rfl) (by decide) (by decide) at_417 (cells' := 13) (slots' := 105) rfl rfl (by decide) (by decide) ?_
            intro r54 h53 hQ sz_h53
            obtain ⟨rfl, rfl⟩ := hQ
            show Go p l e _ s m _ below meth c _ _ _ _ _ _ _ _ _ h49 13 105 (mkF m 420 #[.val (.int mode), .val (.int len), .val (.long lo), .second, .val (.long hig), .second, .val (.int pos), .val (.int ch), .val (.int kd1), .val (.int sb2), .val (.int cc3), .val (.ref st), .val (.ref ki_0), .val (.ref oo), .val (.ref ca), .val (.int (Int32.ofNat i)), .val (.int (Int32.ofNat mm))] [(.ref ki_0)])
            refine Go.castY K (q := 423) rfl (hw _ (List.mem_of_getElem? (i := 143) rfl)) (Ins.self (X_0.ext E0)) at_420 ?_
            refine Go.goto K (q := 427) (by decide) (by decide) at_423 ?_
            refine Go.astore K (q := 429) rfl (L' := #[.val (.int mode), .val (.int len), .val (.long lo), .second, .val (.long hig), .second, .val (.int pos), .val (.int ch), .val (.int kd1), .val (.int sb2), .val (.int cc3), .val (.ref st), .val (.ref ki_0), .val (.ref oo), .val (.ref ki_0), .val (.int (Int32.ofNat i)), .val (.int (Int32.ofNat mm))]) at_427 rfl rfl ?_
            refine Go.aload K (q := 431) rfl at_429 rfl rfl ?_
            refine Go.aload K (q := 433) rfl at_431 rfl rfl ?_
            refine Go.acmp K (q := 436) rfl rfl (same := true) (decide_eq_true rfl) (by decide) (by decide) at_433 ?_
            refine Go.iconst K (q := 437) rfl (v := (1 : Int32)) (by decide) at_436 ?_
            refine Go.goto K (q := 441) (by decide) (by decide) at_437 ?_
            exact Go.retN K (by simp) at_441 (by decide) (by decide) (fun _ q => (List.mem_cons_of_mem _ q)) (rfl)
          · skip
            refine Go.ifY K (q := 378) (by decide) (by decide) at_367 (show (0 : Int32) = (0 : Int32) from rfl) ?_
            refine Go.aload K (q := 380) rfl at_378 rfl rfl ?_
            refine Go.ldcS K (q := 382) rfl (text := "completed") (by decide) (hw _ (List.mem_of_getElem? (i := 52) rfl)) own_atoms (by decide) at_380 (n := 36) (by decide) (by decide) (cells' := 13) (slots' := 142) rfl rfl (by decide) (by decide) ?_
            intro h55 s56 N_s56 T_s56
            have E0 := Ext.trans E0 N_s56
            have E3 := Ext.trans E3 N_s56
            have S_l : Str Z h55 s56 [(99 : Int32), (111 : Int32), (109 : Int32), (112 : Int32), (108 : Int32), (101 : Int32), (116 : Int32), (101 : Int32), (100 : Int32)] := by rw [← own_t1]; exact Str.lit (by decide) (by decide) T_s56
            refine Go.strEq K (q := 385) rfl (own_wordsEq hw) (hw _ (List.mem_of_getElem? (i := 11) rfl)) (y := (⟨"java/lang/String", "equals", "(Ljava/lang/Object;)Z"⟩ : MethodName)) (hw _ (List.mem_of_getElem? (i := 42) rfl)) (hw _ (List.mem_of_getElem? (i := 43) rfl)) (nfS (hw _ (List.mem_of_getElem? (i := 45) rfl))) (hw _ (List.mem_of_getElem? (i := 45) rfl)) (hw _ (List.mem_of_getElem? (i := 44) rfl)) (by decide) rfl (S_st.ext E3) (S_l) (Sa.ext E0) hz at_382 (by decide) rfl (W := 0) (Nat.le_of_eq rfl) (by decide) (by decide) (by decide) (fun e1 => ?_) (fun e1 => ?_)
            · skip
              refine Go.ifN K (q := 388) rfl at_385 (show ¬ (1 : Int32) = (0 : Int32) from (by decide)) ?_
              refine Go.getS K (q := 391) rfl (hw _ (List.mem_of_getElem? (i := 123) rfl)) Via.refl ((T_1.ext E0)) at_388 ?_
              refine Go.astore K (q := 393) rfl (L' := #[.val (.int mode), .val (.int len), .val (.long lo), .second, .val (.long hig), .second, .val (.int pos), .val (.int ch), .val (.int kd1), .val (.int sb2), .val (.int cc3), .val (.ref st), .val (.ref ki_1), .val (.int (Int32.ofNat cs.length)), .val (.ref ca), .val (.int (Int32.ofNat i)), .val (.int (Int32.ofNat mm))]) at_391 rfl rfl ?_
              refine Go.aload K (q := 395) rfl at_393 rfl rfl ?_
              refine Go.cS K (q := 398) rfl (y := (⟨"com/example/tasklane/tasklane/engine/InstanceState", "fromId", "(Ljava/lang/String;)Ljava/util/Optional;"⟩ : MethodName)) (c_from l Z a0 hw (ca :: xs) n0 h55 (Nat.le_trans Z0 E0.1) st _ (S_st.ext E3) z (Sa.ext E0) hz ki_0 ki_1 va kv (SV.ext E0) (AV.ext E0) (XV.ext E0) si_0 si_1 (I_0.ext E0) (U_0.ext E0) (I_1.ext E0) (U_1.ext E0) oe (SE.ext E0) (XE.ext E0) (FE.ext E0)) (hw _ (List.mem_of_getElem? (i := 53) rfl)) (hw _ (List.mem_of_getElem? (i := 54) rfl)) (hw _ (List.mem_of_getElem? (i := 55) rfl)) (hw _ (List.mem_of_getElem? (i := 56) rfl)) (by decide) pd10 (argsL := [(.ref st)]) (rest := []) rfl rfl rfl rfl (W := 0) (Nat.le_of_eq rfl) (by decide) (by decide) at_395 (cells' := 15) (slots' := 145) rfl rfl (by decide) (by decide) ?_
              intro r58 h57 hQ sz_h57
              obtain ⟨oo, rfl, N_o, X_o, F_o⟩ := hQ
              have E0 := Ext.trans E0 N_o
              have E3 := Ext.trans E3 N_o
              show Go p l e _ s m _ below meth c _ _ _ _ _ _ _ _ _ h57 15 145 (mkF m 398 #[.val (.int mode), .val (.int len), .val (.long lo), .second, .val (.long hig), .second, .val (.int pos), .val (.int ch), .val (.int kd1), .val (.int sb2), .val (.int cc3), .val (.ref st), .val (.ref ki_1), .val (.int (Int32.ofNat cs.length)), .val (.ref ca), .val (.int (Int32.ofNat i)), .val (.int (Int32.ofNat mm))] [(.ref oo)])
              rw [own_find, if_neg (fun q => e0 q.symm), if_pos e1.symm] at F_o
              refine Go.astore K (q := 400) rfl (L' := #[.val (.int mode), .val (.int len), .val (.long lo), .second, .val (.long hig), .second, .val (.int pos), .val (.int ch), .val (.int kd1), .val (.int sb2), .val (.int cc3), .val (.ref st), .val (.ref ki_1), .val (.ref oo), .val (.ref ca), .val (.int (Int32.ofNat i)), .val (.int (Int32.ofNat mm))]) at_398 rfl rfl ?_
              refine Go.aload K (q := 402) rfl at_400 rfl rfl ?_
              refine Go.ifnonnullY K (q := 407) (by decide) (by decide) at_402 ?_
              refine Go.aload K (q := 409) rfl at_407 rfl rfl ?_
              refine Go.cV K (q := 412) rfl (y := (⟨"java/util/Optional", "isPresent", "()Z"⟩ : MethodName)) (z := (⟨"java/util/Optional", "isPresent", "()Z"⟩ : MethodName)) (c_oip1 l Z a0 hw (ca :: xs) n0 h57 (Nat.le_trans Z0 E0.1) oo ki_1 F_o) (hw _ (List.mem_of_getElem? (i := 82) rfl)) (hw _ (List.mem_of_getElem? (i := 83) rfl)) (nfS (hw _ (List.mem_of_getElem? (i := 85) rfl))) (hw _ (List.mem_of_getElem? (i := 85) rfl)) (hw _ (List.mem_of_getElem? (i := 84) rfl)) (hw _ (List.mem_of_getElem? (i := 79) rfl)) (hw _ (List.mem_of_getElem? (i := 86) rfl)) (by decide) (isa_of X_o) pd11 (argsL := []) (rest := []) rfl rfl rfl rfl (W := 0) (Nat.le_of_eq rfl) (by decide) (by decide) at_409 (cells' := 15) (slots' := 145) rfl rfl (by decide) (by decide) ?_
              intro r60 h59 hQ sz_h59
              obtain ⟨rfl, rfl⟩ := hQ
              show Go p l e _ s m _ below meth c _ _ _ _ _ _ _ _ _ h57 15 145 (mkF m 412 #[.val (.int mode), .val (.int len), .val (.long lo), .second, .val (.long hig), .second, .val (.int pos), .val (.int ch), .val (.int kd1), .val (.int sb2), .val (.int cc3), .val (.ref st), .val (.ref ki_1), .val (.ref oo), .val (.ref ca), .val (.int (Int32.ofNat i)), .val (.int (Int32.ofNat mm))] [(.int (1 : Int32))])
              refine Go.ifN K (q := 415) rfl at_412 (show ¬ (1 : Int32) = (0 : Int32) from (by decide)) ?_
              refine Go.aload K (q := 417) rfl at_415 rfl rfl ?_
              refine Go.cV K (q := 420) rfl (y := (⟨"java/util/Optional", "get", "()Ljava/lang/Object;"⟩ : MethodName)) (z := (⟨"java/util/Optional", "get", "()Ljava/lang/Object;"⟩ : MethodName)) (c_og l Z a0 hw (ca :: xs) n0 h57 (Nat.le_trans Z0 E0.1) oo ki_1 F_o) (hw _ (List.mem_of_getElem? (i := 138) rfl)) (hw _ (List.mem_of_getElem? (i := 139) rfl)) (nfS (hw _ (List.mem_of_getElem? (i := 141) rfl))) (hw _ (List.mem_of_getElem? (i := 141) rfl)) (hw _ (List.mem_of_getElem? (i := 140) rfl)) (hw _ (List.mem_of_getElem? (i := 79) rfl)) (hw _ (List.mem_of_getElem? (i := 142) rfl)) (by decide) (isa_of X_o) pd12 (argsL := []) (rest := []) rfl rfl rfl rfl (W := 0) (Nat.le_of_eq rfl) (by decide) (by decide) at_417 (cells' := 15) (slots' := 145) rfl rfl (by decide) (by decide) ?_
              intro r62 h61 hQ sz_h61
              obtain ⟨rfl, rfl⟩ := hQ
              show Go p l e _ s m _ below meth c _ _ _ _ _ _ _ _ _ h57 15 145 (mkF m 420 #[.val (.int mode), .val (.int len), .val (.long lo), .second, .val (.long hig), .second, .val (.int pos), .val (.int ch), .val (.int kd1), .val (.int sb2), .val (.int cc3), .val (.ref st), .val (.ref ki_1), .val (.ref oo), .val (.ref ca), .val (.int (Int32.ofNat i)), .val (.int (Int32.ofNat mm))] [(.ref ki_1)])
              refine Go.castY K (q := 423) rfl (hw _ (List.mem_of_getElem? (i := 143) rfl)) (Ins.self (X_1.ext E0)) at_420 ?_
              refine Go.goto K (q := 427) (by decide) (by decide) at_423 ?_
              refine Go.astore K (q := 429) rfl (L' := #[.val (.int mode), .val (.int len), .val (.long lo), .second, .val (.long hig), .second, .val (.int pos), .val (.int ch), .val (.int kd1), .val (.int sb2), .val (.int cc3), .val (.ref st), .val (.ref ki_1), .val (.ref oo), .val (.ref ki_1), .val (.int (Int32.ofNat i)), .val (.int (Int32.ofNat mm))]) at_427 rfl rfl ?_
              refine Go.aload K (q := 431) rfl at_429 rfl rfl ?_
              refine Go.aload K (q := 433) rfl at_431 rfl rfl ?_
              refine Go.acmp K (q := 436) rfl rfl (same := true) (decide_eq_true rfl) (by decide) (by decide) at_433 ?_
              refine Go.iconst K (q := 437) rfl (v := (1 : Int32)) (by decide) at_436 ?_
              refine Go.goto K (q := 441) (by decide) (by decide) at_437 ?_
              exact Go.retN K (by simp) at_441 (by decide) (by decide) (fun _ q => (List.mem_cons_of_mem _ q)) (rfl)
            · skip
              refine Go.ifY K (q := 393) (by decide) (by decide) at_385 (show (0 : Int32) = (0 : Int32) from rfl) ?_
              refine Go.aload K (q := 395) rfl at_393 rfl rfl ?_
              refine Go.cS K (q := 398) rfl (y := (⟨"com/example/tasklane/tasklane/engine/InstanceState", "fromId", "(Ljava/lang/String;)Ljava/util/Optional;"⟩ : MethodName)) (c_from l Z a0 hw (ca :: xs) n0 h55 (Nat.le_trans Z0 E0.1) st _ (S_st.ext E3) z (Sa.ext E0) hz ki_0 ki_1 va kv (SV.ext E0) (AV.ext E0) (XV.ext E0) si_0 si_1 (I_0.ext E0) (U_0.ext E0) (I_1.ext E0) (U_1.ext E0) oe (SE.ext E0) (XE.ext E0) (FE.ext E0)) (hw _ (List.mem_of_getElem? (i := 53) rfl)) (hw _ (List.mem_of_getElem? (i := 54) rfl)) (hw _ (List.mem_of_getElem? (i := 55) rfl)) (hw _ (List.mem_of_getElem? (i := 56) rfl)) (by decide) pd10 (argsL := [(.ref st)]) (rest := []) rfl rfl rfl rfl (W := 0) (Nat.le_of_eq rfl) (by decide) (by decide) at_395 (cells' := 15) (slots' := 145) rfl rfl (by decide) (by decide) ?_
              intro r64 h63 hQ sz_h63
              obtain ⟨oo, rfl, N_o, X_o, F_o⟩ := hQ
              have E0 := Ext.trans E0 N_o
              have E3 := Ext.trans E3 N_o
              show Go p l e _ s m _ below meth c _ _ _ _ _ _ _ _ _ h63 15 145 (mkF m 398 #[.val (.int mode), .val (.int len), .val (.long lo), .second, .val (.long hig), .second, .val (.int pos), .val (.int ch), .val (.int kd1), .val (.int sb2), .val (.int cc3), .val (.ref st), .val .null, .val (.int (Int32.ofNat cs.length)), .val (.ref ca), .val (.int (Int32.ofNat i)), .val (.int (Int32.ofNat mm))] [(.ref oo)])
              rw [own_find, if_neg (fun q => e0 q.symm), if_neg (fun q => e1 q.symm)] at F_o
              refine Go.astore K (q := 400) rfl (L' := #[.val (.int mode), .val (.int len), .val (.long lo), .second, .val (.long hig), .second, .val (.int pos), .val (.int ch), .val (.int kd1), .val (.int sb2), .val (.int cc3), .val (.ref st), .val .null, .val (.ref oo), .val (.ref ca), .val (.int (Int32.ofNat i)), .val (.int (Int32.ofNat mm))]) at_398 rfl rfl ?_
              refine Go.aload K (q := 402) rfl at_400 rfl rfl ?_
              refine Go.ifnonnullY K (q := 407) (by decide) (by decide) at_402 ?_
              refine Go.aload K (q := 409) rfl at_407 rfl rfl ?_
              refine Go.cV K (q := 412) rfl (y := (⟨"java/util/Optional", "isPresent", "()Z"⟩ : MethodName)) (z := (⟨"java/util/Optional", "isPresent", "()Z"⟩ : MethodName)) (c_oip0 l Z a0 hw (ca :: xs) n0 h63 (Nat.le_trans Z0 E0.1) oo F_o) (hw _ (List.mem_of_getElem? (i := 82) rfl)) (hw _ (List.mem_of_getElem? (i := 83) rfl)) (nfS (hw _ (List.mem_of_getElem? (i := 85) rfl))) (hw _ (List.mem_of_getElem? (i := 85) rfl)) (hw _ (List.mem_of_getElem? (i := 84) rfl)) (hw _ (List.mem_of_getElem? (i := 79) rfl)) (hw _ (List.mem_of_getElem? (i := 86) rfl)) (by decide) (isa_of X_o) pd11 (argsL := []) (rest := []) rfl rfl rfl rfl (W := 0) (Nat.le_of_eq rfl) (by decide) (by decide) at_409 (cells' := 15) (slots' := 145) rfl rfl (by decide) (by decide) ?_
              intro r66 h65 hQ sz_h65
              obtain ⟨rfl, rfl⟩ := hQ
              show Go p l e _ s m _ below meth c _ _ _ _ _ _ _ _ _ h63 15 145 (mkF m 412 #[.val (.int mode), .val (.int len), .val (.long lo), .second, .val (.long hig), .second, .val (.int pos), .val (.int ch), .val (.int kd1), .val (.int sb2), .val (.int cc3), .val (.ref st), .val .null, .val (.ref oo), .val (.ref ca), .val (.int (Int32.ofNat i)), .val (.int (Int32.ofNat mm))] [(.int (0 : Int32))])
              refine Go.ifY K (q := 426) (by decide) (by decide) at_412 (show (0 : Int32) = (0 : Int32) from rfl) ?_
              refine Go.aconstNull K (q := 427) rfl at_426 ?_
              refine Go.astore K (q := 429) rfl (L' := #[.val (.int mode), .val (.int len), .val (.long lo), .second, .val (.long hig), .second, .val (.int pos), .val (.int ch), .val (.int kd1), .val (.int sb2), .val (.int cc3), .val (.ref st), .val .null, .val (.ref oo), .val .null, .val (.int (Int32.ofNat i)), .val (.int (Int32.ofNat mm))]) at_427 rfl rfl ?_
              refine Go.aload K (q := 431) rfl at_429 rfl rfl ?_
              refine Go.aload K (q := 433) rfl at_431 rfl rfl ?_
              refine Go.acmp K (q := 436) rfl rfl (same := true) (decide_eq_true rfl) (by decide) (by decide) at_433 ?_
              refine Go.iconst K (q := 437) rfl (v := (1 : Int32)) (by decide) at_436 ?_
              refine Go.goto K (q := 441) (by decide) (by decide) at_437 ?_
              exact Go.retN K (by simp) at_441 (by decide) (by decide) (fun _ q => (List.mem_cons_of_mem _ q)) (rfl)
        have V_ca : Arv Z h43 ca k_ca .char (10 : Int32) (([(own_at cs 0), (own_at cs 1), (own_at cs 2), (own_at cs 3), (own_at cs 4), (own_at cs 5), (own_at cs 6), (own_at cs 7), (own_at cs 8), (own_at cs 9)] : List Int32).map Value.int) (.int (0 : Int32)) := V_ca
        have hL : ∀ c ∈ ([(own_at cs 0), (own_at cs 1), (own_at cs 2), (own_at cs 3), (own_at cs 4), (own_at cs 5), (own_at cs 6), (own_at cs 7), (own_at cs 8), (own_at cs 9)] : List Int32), ¬ c < 0 ∧ ¬ (255 : Int32) < c := own_atl hr
        refine Go.iload K (q := 297) rfl at_295 rfl ?_
        refine Go.iconst K (q := 298) rfl (v := (1 : Int32)) (by decide) at_297 ?_
        refine Go.icmp K (q := 311) (q' := 301) (by decide) (by decide) rfl at_298 (fun (q1 : ¬ sb2 = (1 : Int32)) => ?_) (fun (q1 : sb2 = (1 : Int32)) => ?_)
        · skip
          refine Go.iload K (q := 313) rfl at_311 rfl ?_
          refine Go.iconst K (q := 314) rfl (v := (2 : Int32)) (by decide) at_313 ?_
          refine Go.icmp K (q := 324) (q' := 317) (by decide) (by decide) rfl at_314 (fun (q2 : ¬ sb2 = (2 : Int32)) => ?_) (fun (q2 : sb2 = (2 : Int32)) => ?_)
          · skip
            refine Go.iload K (q := 326) rfl at_324 rfl ?_
            refine Go.iconst K (q := 327) rfl (v := (3 : Int32)) (by decide) at_326 ?_
            refine Go.icmp K (q := 343) (q' := 330) (by decide) (by decide) rfl at_327 (fun (q3 : ¬ sb2 = (3 : Int32)) => ?_) (fun (q3 : sb2 = (3 : Int32)) => ?_)
            · skip
              exact key3 _ _ cs.length E0 V_ca rfl hL (by omega)
            · skip
              refine Go.aload K (q := 332) rfl at_330 rfl rfl ?_
              refine Go.iload K (q := 334) rfl at_332 rfl ?_
              refine Go.iload K (q := 336) rfl at_334 rfl ?_
              have hi' : cs.length < 10 := by omega
              refine Go.castore K (q := 337) rfl V_ca (i := cs.length) at_336 (own_ix (n := 10) hi' (by decide)).1 (own_ix (n := 10) hi' (by decide)).2 (by simpa using hi') n_ca List.mem_cons_self ?_
              intro h67 W68 V_ca
              have E0 := Ext.wr E0 W68 ge_E0_ca
              have EB := Ext.wr EB W68 ge_EB_ca
              rw [own_nc hcc, ← List.map_set] at V_ca
              refine Go.iload K (q := 339) rfl at_337 rfl ?_
              refine Go.iconst K (q := 340) rfl (v := (1 : Int32)) (by decide) at_339 ?_
              refine Go.iadd K (q := 341) rfl at_340 ?_
              refine Go.istore K (q := 343) rfl (L' := #[.val (.int mode), .val (.int len), .val (.long lo), .second, .val (.long hig), .second, .val (.int pos), .val (.int ch), .val (.int kd1), .val (.int sb2), .val (.int cc3), .unset, .val (.ref bs), .val (.int (Int32.ofNat cs.length)), .val (.ref ca), .val (.int (Int32.ofNat i)), .val (.int ((Int32.ofNat cs.length) + (1 : Int32)))]) at_341 rfl ?_
              rw [own_succ hl]
              exact key3 _ _ (cs.length + 1) E0 V_ca (by simp) (own_rs hL hcc) (by omega)
          · skip
            refine Go.iload K (q := 319) rfl at_317 rfl ?_
            refine Go.istore K (q := 321) rfl (L' := #[.val (.int mode), .val (.int len), .val (.long lo), .second, .val (.long hig), .second, .val (.int pos), .val (.int ch), .val (.int kd1), .val (.int sb2), .val (.int cc3), .unset, .val (.ref bs), .val (.int (Int32.ofNat cs.length)), .val (.ref ca), .val (.int (Int32.ofNat i)), .val (.int (Int32.ofNat i))]) at_319 rfl ?_
            refine Go.goto K (q := 343) (by decide) (by decide) at_321 ?_
            exact key3 _ _ i E0 V_ca rfl hL (by omega)
        · skip
          refine Go.aload K (q := 303) rfl at_301 rfl rfl ?_
          refine Go.iload K (q := 305) rfl at_303 rfl ?_
          refine Go.iload K (q := 307) rfl at_305 rfl ?_
          have hi' : i < 10 := by omega
          refine Go.castore K (q := 308) rfl V_ca (i := i) at_307 (own_ix (n := 10) hi' (by decide)).1 (own_ix (n := 10) hi' (by decide)).2 (by simpa using hi') n_ca List.mem_cons_self ?_
          intro h69 W70 V_ca
          have E0 := Ext.wr E0 W70 ge_E0_ca
          have EB := Ext.wr EB W70 ge_EB_ca
          rw [own_nc hcc, ← List.map_set] at V_ca
          refine Go.goto K (q := 343) (by decide) (by decide) at_308 ?_
          exact key3 _ _ cs.length E0 V_ca (by simp) (own_rs hL hcc) (by omega)
      refine Go.icmp K (q := 166) (q' := 161) (by decide) (by decide) rfl at_158 (fun (qb : ¬ kd1 = (1 : Int32)) => ?_) (fun (qb : kd1 = (1 : Int32)) => ?_)
      · skip
        refine Go.ldcS K (q := 168) rfl (text := "completed") (by decide) (hw _ (List.mem_of_getElem? (i := 52) rfl)) own_atoms (by decide) at_166 (n := 36) (by decide) (by decide) (cells' := 2) (slots' := 40) rfl rfl (by decide) (by decide) ?_
        intro h71 s72 N_s72 T_s72
        have E0 := Ext.trans E0 N_s72
        have S_b : Str Z h71 s72 [(99 : Int32), (111 : Int32), (109 : Int32), (112 : Int32), (108 : Int32), (101 : Int32), (116 : Int32), (101 : Int32), (100 : Int32)] := by rw [← own_t1]; exact Str.lit (by decide) (by decide) T_s72
        exact key _ _ _ E0 S_b (by decide) (by decide)
      · skip
        refine Go.ldcS K (q := 163) rfl (text := "active") (by decide) (hw _ (List.mem_of_getElem? (i := 39) rfl)) own_atoms (by decide) at_161 (n := 36) (by decide) (by decide) (cells' := 2) (slots' := 40) rfl rfl (by decide) (by decide) ?_
        intro h73 s74 N_s74 T_s74
        have E0 := Ext.trans E0 N_s74
        have S_b : Str Z h73 s74 [(97 : Int32), (99 : Int32), (116 : Int32), (105 : Int32), (118 : Int32), (101 : Int32)] := by rw [← own_t0]; exact Str.lit (by decide) (by decide) T_s74
        refine Go.goto K (q := 168) (by decide) (by decide) at_163 ?_
        exact key _ _ _ E0 S_b (by decide) (by decide)
    · skip
      refine Go.bipush K (q := 40) rfl (v := (10 : Int32)) (by decide) at_38 ?_
      refine Go.newarr K (q := 42) rfl (hw _ (List.mem_of_getElem? (i := 0) rfl)) at_40 (by decide) (cap := 10) (by decide) (by decide) (cells' := 1) (slots' := 10) rfl rfl (by decide) (by decide) ?_
      intro h75 ca k_ca g_ca N_ca V_ca
      have V_ca : Arv Z h75 ca k_ca .char (10 : Int32) [(.int (0 : Int32)), (.int (0 : Int32)), (.int (0 : Int32)), (.int (0 : Int32)), (.int (0 : Int32)), (.int (0 : Int32)), (.int (0 : Int32)), (.int (0 : Int32)), (.int (0 : Int32)), (.int (0 : Int32))] (.int (0 : Int32)) := V_ca
      have ge_E0_ca : h.size ≤ ca := Nat.le_trans E0.1 (Nat.le_of_eq g_ca.symm)
      have E0 := Ext.trans E0 N_ca
      have n_ca : n0 ≤ ca := Nat.le_trans Z0 ge_E0_ca
      refine Go.dup K (q := 43) rfl at_42 rfl ?_
      refine Go.iconst K (q := 44) rfl (v := (0 : Int32)) (by decide) at_43 ?_
      refine Go.lloadN K (q := 45) rfl at_44 rfl ?_
      refine Go.iconst K (q := 46) rfl (v := (0 : Int32)) (by decide) at_45 ?_
      refine Go.cS K (q := 49) rfl (y := (⟨"com/example/tasklane/tasklane/engine/InstanceStateFromIdPinLaw", "b", "(JI)C"⟩ : MethodName)) (c_b l Z a0 hw (ca :: xs) n0 h75 (Nat.le_trans Z0 E0.1) lo (0 : Int32)) (hw _ (List.mem_of_getElem? (i := 1) rfl)) (hw _ (List.mem_of_getElem? (i := 2) rfl)) (hw _ (List.mem_of_getElem? (i := 3) rfl)) (hw _ (List.mem_of_getElem? (i := 4) rfl)) (by decide) pd13 (argsL := [(.long lo), (.int (0 : Int32))]) (rest := [(.int (0 : Int32)), (.ref ca), (.ref ca)]) rfl rfl rfl rfl (W := 3) (Nat.le_of_eq rfl) (by decide) (by decide) at_46 (cells' := 1) (slots' := 10) rfl rfl (by decide) (by decide) ?_
      intro r77 h76 hQ sz_h76
      obtain ⟨rfl, rfl⟩ := hQ
      show Go p l e _ s m _ below meth c _ _ _ _ _ _ _ _ _ h75 1 10 (mkF m 49 #[.val (.int mode), .val (.int len), .val (.long lo), .second, .val (.long hig), .second, .val (.int pos), .val (.int ch), .val (.int kd1), .val (.int sb2), .val (.int cc3), .unset, .unset, .unset, .unset, .unset, .unset] [(.int (own_b lo (0 : Int32))), (.int (0 : Int32)), (.ref ca), (.ref ca)])
      refine Go.castore K (q := 50) rfl V_ca (i := 0) at_49 ⟨by decide, by decide⟩ rfl (Nat.le_of_ble_eq_true rfl) n_ca List.mem_cons_self ?_
      intro h78 W79 V_ca
      have E0 := Ext.wr E0 W79 ge_E0_ca
      refine Go.dup K (q := 51) rfl at_50 rfl ?_
      refine Go.iconst K (q := 52) rfl (v := (1 : Int32)) (by decide) at_51 ?_
      refine Go.lloadN K (q := 53) rfl at_52 rfl ?_
      refine Go.bipush K (q := 55) rfl (v := (8 : Int32)) (by decide) at_53 ?_
      refine Go.cS K (q := 58) rfl (y := (⟨"com/example/tasklane/tasklane/engine/InstanceStateFromIdPinLaw", "b", "(JI)C"⟩ : MethodName)) (c_b l Z a0 hw (ca :: xs) n0 h78 (Nat.le_trans Z0 E0.1) lo (8 : Int32)) (hw _ (List.mem_of_getElem? (i := 1) rfl)) (hw _ (List.mem_of_getElem? (i := 2) rfl)) (hw _ (List.mem_of_getElem? (i := 3) rfl)) (hw _ (List.mem_of_getElem? (i := 4) rfl)) (by decide) pd13 (argsL := [(.long lo), (.int (8 : Int32))]) (rest := [(.int (1 : Int32)), (.ref ca), (.ref ca)]) rfl rfl rfl rfl (W := 3) (Nat.le_of_eq rfl) (by decide) (by decide) at_55 (cells' := 1) (slots' := 10) rfl rfl (by decide) (by decide) ?_
      intro r81 h80 hQ sz_h80
      obtain ⟨rfl, rfl⟩ := hQ
      show Go p l e _ s m _ below meth c _ _ _ _ _ _ _ _ _ h78 1 10 (mkF m 58 #[.val (.int mode), .val (.int len), .val (.long lo), .second, .val (.long hig), .second, .val (.int pos), .val (.int ch), .val (.int kd1), .val (.int sb2), .val (.int cc3), .unset, .unset, .unset, .unset, .unset, .unset] [(.int (own_b lo (8 : Int32))), (.int (1 : Int32)), (.ref ca), (.ref ca)])
      refine Go.castore K (q := 59) rfl V_ca (i := 1) at_58 ⟨by decide, by decide⟩ rfl (Nat.le_of_ble_eq_true rfl) n_ca List.mem_cons_self ?_
      intro h82 W83 V_ca
      have E0 := Ext.wr E0 W83 ge_E0_ca
      refine Go.dup K (q := 60) rfl at_59 rfl ?_
      refine Go.iconst K (q := 61) rfl (v := (2 : Int32)) (by decide) at_60 ?_
      refine Go.lloadN K (q := 62) rfl at_61 rfl ?_
      refine Go.bipush K (q := 64) rfl (v := (16 : Int32)) (by decide) at_62 ?_
      refine Go.cS K (q := 67) rfl (y := (⟨"com/example/tasklane/tasklane/engine/InstanceStateFromIdPinLaw", "b", "(JI)C"⟩ : MethodName)) (c_b l Z a0 hw (ca :: xs) n0 h82 (Nat.le_trans Z0 E0.1) lo (16 : Int32)) (hw _ (List.mem_of_getElem? (i := 1) rfl)) (hw _ (List.mem_of_getElem? (i := 2) rfl)) (hw _ (List.mem_of_getElem? (i := 3) rfl)) (hw _ (List.mem_of_getElem? (i := 4) rfl)) (by decide) pd13 (argsL := [(.long lo), (.int (16 : Int32))]) (rest := [(.int (2 : Int32)), (.ref ca), (.ref ca)]) rfl rfl rfl rfl (W := 3) (Nat.le_of_eq rfl) (by decide) (by decide) at_64 (cells' := 1) (slots' := 10) rfl rfl (by decide) (by decide) ?_
      intro r85 h84 hQ sz_h84
      obtain ⟨rfl, rfl⟩ := hQ
      show Go p l e _ s m _ below meth c _ _ _ _ _ _ _ _ _ h82 1 10 (mkF m 67 #[.val (.int mode), .val (.int len), .val (.long lo), .second, .val (.long hig), .second, .val (.int pos), .val (.int ch), .val (.int kd1), .val (.int sb2), .val (.int cc3), .unset, .unset, .unset, .unset, .unset, .unset] [(.int (own_b lo (16 : Int32))), (.int (2 : Int32)), (.ref ca), (.ref ca)])
      refine Go.castore K (q := 68) rfl V_ca (i := 2) at_67 ⟨by decide, by decide⟩ rfl (Nat.le_of_ble_eq_true rfl) n_ca List.mem_cons_self ?_
      intro h86 W87 V_ca
      have E0 := Ext.wr E0 W87 ge_E0_ca
      refine Go.dup K (q := 69) rfl at_68 rfl ?_
      refine Go.iconst K (q := 70) rfl (v := (3 : Int32)) (by decide) at_69 ?_
      refine Go.lloadN K (q := 71) rfl at_70 rfl ?_
      refine Go.bipush K (q := 73) rfl (v := (24 : Int32)) (by decide) at_71 ?_
      refine Go.cS K (q := 76) rfl (y := (⟨"com/example/tasklane/tasklane/engine/InstanceStateFromIdPinLaw", "b", "(JI)C"⟩ : MethodName)) (c_b l Z a0 hw (ca :: xs) n0 h86 (Nat.le_trans Z0 E0.1) lo (24 : Int32)) (hw _ (List.mem_of_getElem? (i := 1) rfl)) (hw _ (List.mem_of_getElem? (i := 2) rfl)) (hw _ (List.mem_of_getElem? (i := 3) rfl)) (hw _ (List.mem_of_getElem? (i := 4) rfl)) (by decide) pd13 (argsL := [(.long lo), (.int (24 : Int32))]) (rest := [(.int (3 : Int32)), (.ref ca), (.ref ca)]) rfl rfl rfl rfl (W := 3) (Nat.le_of_eq rfl) (by decide) (by decide) at_73 (cells' := 1) (slots' := 10) rfl rfl (by decide) (by decide) ?_
      intro r89 h88 hQ sz_h88
      obtain ⟨rfl, rfl⟩ := hQ
      show Go p l e _ s m _ below meth c _ _ _ _ _ _ _ _ _ h86 1 10 (mkF m 76 #[.val (.int mode), .val (.int len), .val (.long lo), .second, .val (.long hig), .second, .val (.int pos), .val (.int ch), .val (.int kd1), .val (.int sb2), .val (.int cc3), .unset, .unset, .unset, .unset, .unset, .unset] [(.int (own_b lo (24 : Int32))), (.int (3 : Int32)), (.ref ca), (.ref ca)])
      refine Go.castore K (q := 77) rfl V_ca (i := 3) at_76 ⟨by decide, by decide⟩ rfl (Nat.le_of_ble_eq_true rfl) n_ca List.mem_cons_self ?_
      intro h90 W91 V_ca
      have E0 := Ext.wr E0 W91 ge_E0_ca
      refine Go.dup K (q := 78) rfl at_77 rfl ?_
      refine Go.iconst K (q := 79) rfl (v := (4 : Int32)) (by decide) at_78 ?_
      refine Go.lloadN K (q := 80) rfl at_79 rfl ?_
      refine Go.bipush K (q := 82) rfl (v := (32 : Int32)) (by decide) at_80 ?_
      refine Go.cS K (q := 85) rfl (y := (⟨"com/example/tasklane/tasklane/engine/InstanceStateFromIdPinLaw", "b", "(JI)C"⟩ : MethodName)) (c_b l Z a0 hw (ca :: xs) n0 h90 (Nat.le_trans Z0 E0.1) lo (32 : Int32)) (hw _ (List.mem_of_getElem? (i := 1) rfl)) (hw _ (List.mem_of_getElem? (i := 2) rfl)) (hw _ (List.mem_of_getElem? (i := 3) rfl)) (hw _ (List.mem_of_getElem? (i := 4) rfl)) (by decide) pd13 (argsL := [(.long lo), (.int (32 : Int32))]) (rest := [(.int (4 : Int32)), (.ref ca), (.ref ca)]) rfl rfl rfl rfl (W := 3) (Nat.le_of_eq rfl) (by decide) (by decide) at_82 (cells' := 1) (slots' := 10) rfl rfl (by decide) (by decide) ?_
      intro r93 h92 hQ sz_h92
      obtain ⟨rfl, rfl⟩ := hQ
      show Go p l e _ s m _ below meth c _ _ _ _ _ _ _ _ _ h90 1 10 (mkF m 85 #[.val (.int mode), .val (.int len), .val (.long lo), .second, .val (.long hig), .second, .val (.int pos), .val (.int ch), .val (.int kd1), .val (.int sb2), .val (.int cc3), .unset, .unset, .unset, .unset, .unset, .unset] [(.int (own_b lo (32 : Int32))), (.int (4 : Int32)), (.ref ca), (.ref ca)])
      refine Go.castore K (q := 86) rfl V_ca (i := 4) at_85 ⟨by decide, by decide⟩ rfl (Nat.le_of_ble_eq_true rfl) n_ca List.mem_cons_self ?_
      intro h94 W95 V_ca
      have E0 := Ext.wr E0 W95 ge_E0_ca
      refine Go.dup K (q := 87) rfl at_86 rfl ?_
      refine Go.iconst K (q := 88) rfl (v := (5 : Int32)) (by decide) at_87 ?_
      refine Go.lloadN K (q := 89) rfl at_88 rfl ?_
      refine Go.bipush K (q := 91) rfl (v := (40 : Int32)) (by decide) at_89 ?_
      refine Go.cS K (q := 94) rfl (y := (⟨"com/example/tasklane/tasklane/engine/InstanceStateFromIdPinLaw", "b", "(JI)C"⟩ : MethodName)) (c_b l Z a0 hw (ca :: xs) n0 h94 (Nat.le_trans Z0 E0.1) lo (40 : Int32)) (hw _ (List.mem_of_getElem? (i := 1) rfl)) (hw _ (List.mem_of_getElem? (i := 2) rfl)) (hw _ (List.mem_of_getElem? (i := 3) rfl)) (hw _ (List.mem_of_getElem? (i := 4) rfl)) (by decide) pd13 (argsL := [(.long lo), (.int (40 : Int32))]) (rest := [(.int (5 : Int32)), (.ref ca), (.ref ca)]) rfl rfl rfl rfl (W := 3) (Nat.le_of_eq rfl) (by decide) (by decide) at_91 (cells' := 1) (slots' := 10) rfl rfl (by decide) (by decide) ?_
      intro r97 h96 hQ sz_h96
      obtain ⟨rfl, rfl⟩ := hQ
      show Go p l e _ s m _ below meth c _ _ _ _ _ _ _ _ _ h94 1 10 (mkF m 94 #[.val (.int mode), .val (.int len), .val (.long lo), .second, .val (.long hig), .second, .val (.int pos), .val (.int ch), .val (.int kd1), .val (.int sb2), .val (.int cc3), .unset, .unset, .unset, .unset, .unset, .unset] [(.int (own_b lo (40 : Int32))), (.int (5 : Int32)), (.ref ca), (.ref ca)])
      refine Go.castore K (q := 95) rfl V_ca (i := 5) at_94 ⟨by decide, by decide⟩ rfl (Nat.le_of_ble_eq_true rfl) n_ca List.mem_cons_self ?_
      intro h98 W99 V_ca
      have E0 := Ext.wr E0 W99 ge_E0_ca
      refine Go.dup K (q := 96) rfl at_95 rfl ?_
      refine Go.bipush K (q := 98) rfl (v := (6 : Int32)) (by decide) at_96 ?_
      refine Go.lloadN K (q := 99) rfl at_98 rfl ?_
      refine Go.bipush K (q := 101) rfl (v := (48 : Int32)) (by decide) at_99 ?_
      refine Go.cS K (q := 104) rfl (y := (⟨"com/example/tasklane/tasklane/engine/InstanceStateFromIdPinLaw", "b", "(JI)C"⟩ : MethodName)) (c_b l Z a0 hw (ca :: xs) n0 h98 (Nat.le_trans Z0 E0.1) lo (48 : Int32)) (hw _ (List.mem_of_getElem? (i := 1) rfl)) (hw _ (List.mem_of_getElem? (i := 2) rfl)) (hw _ (List.mem_of_getElem? (i := 3) rfl)) (hw _ (List.mem_of_getElem? (i := 4) rfl)) (by decide) pd13 (argsL := [(.long lo), (.int (48 : Int32))]) (rest := [(.int (6 : Int32)), (.ref ca), (.ref ca)]) rfl rfl rfl rfl (W := 3) (Nat.le_of_eq rfl) (by decide) (by decide) at_101 (cells' := 1) (slots' := 10) rfl rfl (by decide) (by decide) ?_
      intro r101 h100 hQ sz_h100
      obtain ⟨rfl, rfl⟩ := hQ
      show Go p l e _ s m _ below meth c _ _ _ _ _ _ _ _ _ h98 1 10 (mkF m 104 #[.val (.int mode), .val (.int len), .val (.long lo), .second, .val (.long hig), .second, .val (.int pos), .val (.int ch), .val (.int kd1), .val (.int sb2), .val (.int cc3), .unset, .unset, .unset, .unset, .unset, .unset] [(.int (own_b lo (48 : Int32))), (.int (6 : Int32)), (.ref ca), (.ref ca)])
      refine Go.castore K (q := 105) rfl V_ca (i := 6) at_104 ⟨by decide, by decide⟩ rfl (Nat.le_of_ble_eq_true rfl) n_ca List.mem_cons_self ?_
      intro h102 W103 V_ca
      have E0 := Ext.wr E0 W103 ge_E0_ca
      refine Go.dup K (q := 106) rfl at_105 rfl ?_
      refine Go.bipush K (q := 108) rfl (v := (7 : Int32)) (by decide) at_106 ?_
      refine Go.lloadN K (q := 109) rfl at_108 rfl ?_
      refine Go.bipush K (q := 111) rfl (v := (56 : Int32)) (by decide) at_109 ?_
      refine Go.cS K (q := 114) rfl (y := (⟨"com/example/tasklane/tasklane/engine/InstanceStateFromIdPinLaw", "b", "(JI)C"⟩ : MethodName)) (c_b l Z a0 hw (ca :: xs) n0 h102 (Nat.le_trans Z0 E0.1) lo (56 : Int32)) (hw _ (List.mem_of_getElem? (i := 1) rfl)) (hw _ (List.mem_of_getElem? (i := 2) rfl)) (hw _ (List.mem_of_getElem? (i := 3) rfl)) (hw _ (List.mem_of_getElem? (i := 4) rfl)) (by decide) pd13 (argsL := [(.long lo), (.int (56 : Int32))]) (rest := [(.int (7 : Int32)), (.ref ca), (.ref ca)]) rfl rfl rfl rfl (W := 3) (Nat.le_of_eq rfl) (by decide) (by decide) at_111 (cells' := 1) (slots' := 10) rfl rfl (by decide) (by decide) ?_
      intro r105 h104 hQ sz_h104
      obtain ⟨rfl, rfl⟩ := hQ
      show Go p l e _ s m _ below meth c _ _ _ _ _ _ _ _ _ h102 1 10 (mkF m 114 #[.val (.int mode), .val (.int len), .val (.long lo), .second, .val (.long hig), .second, .val (.int pos), .val (.int ch), .val (.int kd1), .val (.int sb2), .val (.int cc3), .unset, .unset, .unset, .unset, .unset, .unset] [(.int (own_b lo (56 : Int32))), (.int (7 : Int32)), (.ref ca), (.ref ca)])
      refine Go.castore K (q := 115) rfl V_ca (i := 7) at_114 ⟨by decide, by decide⟩ rfl (Nat.le_of_ble_eq_true rfl) n_ca List.mem_cons_self ?_
      intro h106 W107 V_ca
      have E0 := Ext.wr E0 W107 ge_E0_ca
      refine Go.dup K (q := 116) rfl at_115 rfl ?_
      refine Go.bipush K (q := 118) rfl (v := (8 : Int32)) (by decide) at_116 ?_
      refine Go.lload K (q := 120) rfl at_118 rfl ?_
      refine Go.iconst K (q := 121) rfl (v := (0 : Int32)) (by decide) at_120 ?_
      refine Go.cS K (q := 124) rfl (y := (⟨"com/example/tasklane/tasklane/engine/InstanceStateFromIdPinLaw", "b", "(JI)C"⟩ : MethodName)) (c_b l Z a0 hw (ca :: xs) n0 h106 (Nat.le_trans Z0 E0.1) hig (0 : Int32)) (hw _ (List.mem_of_getElem? (i := 1) rfl)) (hw _ (List.mem_of_getElem? (i := 2) rfl)) (hw _ (List.mem_of_getElem? (i := 3) rfl)) (hw _ (List.mem_of_getElem? (i := 4) rfl)) (by decide) pd13 (argsL := [(.long hig), (.int (0 : Int32))]) (rest := [(.int (8 : Int32)), (.ref ca), (.ref ca)]) rfl rfl rfl rfl (W := 3) (Nat.le_of_eq rfl) (by decide) (by decide) at_121 (cells' := 1) (slots' := 10) rfl rfl (by decide) (by decide) ?_
      intro r109 h108 hQ sz_h108
      obtain ⟨rfl, rfl⟩ := hQ
      show Go p l e _ s m _ below meth c _ _ _ _ _ _ _ _ _ h106 1 10 (mkF m 124 #[.val (.int mode), .val (.int len), .val (.long lo), .second, .val (.long hig), .second, .val (.int pos), .val (.int ch), .val (.int kd1), .val (.int sb2), .val (.int cc3), .unset, .unset, .unset, .unset, .unset, .unset] [(.int (own_b hig (0 : Int32))), (.int (8 : Int32)), (.ref ca), (.ref ca)])
      refine Go.castore K (q := 125) rfl V_ca (i := 8) at_124 ⟨by decide, by decide⟩ rfl (Nat.le_of_ble_eq_true rfl) n_ca List.mem_cons_self ?_
      intro h110 W111 V_ca
      have E0 := Ext.wr E0 W111 ge_E0_ca
      refine Go.dup K (q := 126) rfl at_125 rfl ?_
      refine Go.bipush K (q := 128) rfl (v := (9 : Int32)) (by decide) at_126 ?_
      refine Go.lload K (q := 130) rfl at_128 rfl ?_
      refine Go.bipush K (q := 132) rfl (v := (8 : Int32)) (by decide) at_130 ?_
      refine Go.cS K (q := 135) rfl (y := (⟨"com/example/tasklane/tasklane/engine/InstanceStateFromIdPinLaw", "b", "(JI)C"⟩ : MethodName)) (c_b l Z a0 hw (ca :: xs) n0 h110 (Nat.le_trans Z0 E0.1) hig (8 : Int32)) (hw _ (List.mem_of_getElem? (i := 1) rfl)) (hw _ (List.mem_of_getElem? (i := 2) rfl)) (hw _ (List.mem_of_getElem? (i := 3) rfl)) (hw _ (List.mem_of_getElem? (i := 4) rfl)) (by decide) pd13 (argsL := [(.long hig), (.int (8 : Int32))]) (rest := [(.int (9 : Int32)), (.ref ca), (.ref ca)]) rfl rfl rfl rfl (W := 3) (Nat.le_of_eq rfl) (by decide) (by decide) at_132 (cells' := 1) (slots' := 10) rfl rfl (by decide) (by decide) ?_
      intro r113 h112 hQ sz_h112
      obtain ⟨rfl, rfl⟩ := hQ
      show Go p l e _ s m _ below meth c _ _ _ _ _ _ _ _ _ h110 1 10 (mkF m 135 #[.val (.int mode), .val (.int len), .val (.long lo), .second, .val (.long hig), .second, .val (.int pos), .val (.int ch), .val (.int kd1), .val (.int sb2), .val (.int cc3), .unset, .unset, .unset, .unset, .unset, .unset] [(.int (own_b hig (8 : Int32))), (.int (9 : Int32)), (.ref ca), (.ref ca)])
      refine Go.castore K (q := 136) rfl V_ca (i := 9) at_135 ⟨by decide, by decide⟩ rfl (Nat.le_of_ble_eq_true rfl) n_ca List.mem_cons_self ?_
      intro h114 W115 V_ca
      have E0 := Ext.wr E0 W115 ge_E0_ca
      refine Go.astore K (q := 138) rfl (L' := #[.val (.int mode), .val (.int len), .val (.long lo), .second, .val (.long hig), .second, .val (.int pos), .val (.int ch), .val (.int kd1), .val (.int sb2), .val (.int cc3), .unset, .val (.ref ca), .unset, .unset, .unset, .unset]) at_136 rfl rfl ?_
      refine Go.aload K (q := 140) rfl at_138 rfl rfl ?_
      refine Go.iloadN K (q := 141) rfl at_140 rfl ?_
      refine Go.ldcInt K (q := 143) rfl (v := (2147483647 : Int32)) (hw _ (List.mem_of_getElem? (i := 6) rfl)) at_141 ?_
      refine Go.iand K (q := 144) rfl at_143 ?_
      refine Go.bipush K (q := 146) rfl (v := (11 : Int32)) (by decide) at_144 ?_
      refine Go.irem K (q := 147) rfl at_146 (by decide) ?_
      rw [own_nc (own_br lo (0 : Int32)), own_nc (own_br lo (8 : Int32)), own_nc (own_br lo (16 : Int32)), own_nc (own_br lo (24 : Int32)), own_nc (own_br lo (32 : Int32)), own_nc (own_br lo (40 : Int32)), own_nc (own_br lo (48 : Int32)), own_nc (own_br lo (56 : Int32)), own_nc (own_br hig (0 : Int32)), own_nc (own_br hig (8 : Int32))] at V_ca
      obtain ⟨i, hi, ep⟩ := own_mod len 11 (by decide) (by decide)
      rw [show (len &&& (2147483647 : Int32)) % (11 : Int32) = Int32.ofNat i from ep]
      show Go p l e _ s m _ below meth c _ _ _ _ _ _ _ _ _ h114 1 10 (mkF m 147 #[.val (.int mode), .val (.int len), .val (.long lo), .second, .val (.long hig), .second, .val (.int pos), .val (.int ch), .val (.int kd1), .val (.int sb2), .val (.int cc3), .unset, .val (.ref ca), .unset, .unset, .unset, .unset] [(.int (Int32.ofNat i)), (.ref ca)])
      refine Go.cS K (q := 150) rfl (y := (⟨"com/example/tasklane/tasklane/engine/InstanceStateFromIdPinLaw", "prefix", "([CI)Ljava/lang/String;"⟩ : MethodName)) (c_pre l Z a0 hw (ca :: xs) n0 h114 (Nat.le_trans Z0 E0.1) ca _ i (Nat.lt_succ_iff.mp hi) (own_b lo (0 : Int32)) (own_b lo (8 : Int32)) (own_b lo (16 : Int32)) (own_b lo (24 : Int32)) (own_b lo (32 : Int32)) (own_b lo (40 : Int32)) (own_b lo (48 : Int32)) (own_b lo (56 : Int32)) (own_b hig (0 : Int32)) (own_b hig (8 : Int32)) (own_br lo (0 : Int32)) (own_br lo (8 : Int32)) (own_br lo (16 : Int32)) (own_br lo (24 : Int32)) (own_br lo (32 : Int32)) (own_br lo (40 : Int32)) (own_br lo (48 : Int32)) (own_br lo (56 : Int32)) (own_br hig (0 : Int32)) (own_br hig (8 : Int32)) V_ca z (Sa.ext E0) hz) (hw _ (List.mem_of_getElem? (i := 7) rfl)) (hw _ (List.mem_of_getElem? (i := 8) rfl)) (hw _ (List.mem_of_getElem? (i := 3) rfl)) (hw _ (List.mem_of_getElem? (i := 9) rfl)) (by decide) pd9 (argsL := [(.ref ca), (.int (Int32.ofNat i))]) (rest := []) rfl rfl rfl rfl (W := 0) (Nat.le_of_eq rfl) (by decide) (by decide) at_147 (cells' := 7) (slots' := 34) rfl rfl (by decide) (by decide) ?_
      intro r117 h116 hQ sz_h116
      obtain ⟨st, cst, rfl, N_st, S_st⟩ := hQ
      have E0 := Ext.trans E0 N_st
      show Go p l e _ s m _ below meth c _ _ _ _ _ _ _ _ _ h116 7 34 (mkF m 150 #[.val (.int mode), .val (.int len), .val (.long lo), .second, .val (.long hig), .second, .val (.int pos), .val (.int ch), .val (.int kd1), .val (.int sb2), .val (.int cc3), .unset, .val (.ref ca), .unset, .unset, .unset, .unset] [(.ref st)])
      refine Go.astore K (q := 152) rfl (L' := #[.val (.int mode), .val (.int len), .val (.long lo), .second, .val (.long hig), .second, .val (.int pos), .val (.int ch), .val (.int kd1), .val (.int sb2), .val (.int cc3), .val (.ref st), .val (.ref ca), .unset, .unset, .unset, .unset]) at_150 rfl rfl ?_
      refine Go.goto K (q := 352) (by decide) (by decide) at_152 ?_
      refine Go.aconstNull K (q := 353) rfl at_352 ?_
      refine Go.astore K (q := 355) rfl (L' := #[.val (.int mode), .val (.int len), .val (.long lo), .second, .val (.long hig), .second, .val (.int pos), .val (.int ch), .val (.int kd1), .val (.int sb2), .val (.int cc3), .val (.ref st), .val .null, .unset, .unset, .unset, .unset]) at_353 rfl rfl ?_
      refine Go.aload K (q := 357) rfl at_355 rfl rfl ?_
      refine Go.ifnullN K (q := 360) rfl at_357 ?_
      refine Go.aload K (q := 362) rfl at_360 rfl rfl ?_
      have E3 := Ext.refl h116
      refine Go.ldcS K (q := 364) rfl (text := "active") (by decide) (hw _ (List.mem_of_getElem? (i := 39) rfl)) own_atoms (by decide) at_362 (n := 24) (by decide) (by decide) (cells' := 9) (slots' := 62) rfl rfl (by decide) (by decide) ?_
      intro h118 s119 N_s119 T_s119
      have E0 := Ext.trans E0 N_s119
      have E3 := Ext.trans E3 N_s119
      have S_l : Str Z h118 s119 [(97 : Int32), (99 : Int32), (116 : Int32), (105 : Int32), (118 : Int32), (101 : Int32)] := by rw [← own_t0]; exact Str.lit (by decide) (by decide) T_s119
      refine Go.strEq K (q := 367) rfl (own_wordsEq hw) (hw _ (List.mem_of_getElem? (i := 11) rfl)) (y := (⟨"java/lang/String", "equals", "(Ljava/lang/Object;)Z"⟩ : MethodName)) (hw _ (List.mem_of_getElem? (i := 42) rfl)) (hw _ (List.mem_of_getElem? (i := 43) rfl)) (nfS (hw _ (List.mem_of_getElem? (i := 45) rfl))) (hw _ (List.mem_of_getElem? (i := 45) rfl)) (hw _ (List.mem_of_getElem? (i := 44) rfl)) (by decide) rfl (S_st.ext E3) (S_l) (Sa.ext E0) hz at_364 (by decide) rfl (W := 0) (Nat.le_of_eq rfl) (by decide) (by decide) (by decide) (fun e0 => ?_) (fun e0 => ?_)
      · skip
        refine Go.ifN K (q := 370) rfl at_367 (show ¬ (1 : Int32) = (0 : Int32) from (by decide)) ?_
        refine Go.getS K (q := 373) rfl (hw _ (List.mem_of_getElem? (i := 145) rfl)) Via.refl ((T_0.ext E0)) at_370 ?_
        refine Go.astore K (q := 375) rfl (L' := #[.val (.int mode), .val (.int len), .val (.long lo), .second, .val (.long hig), .second, .val (.int pos), .val (.int ch), .val (.int kd1), .val (.int sb2), .val (.int cc3), .val (.ref st), .val (.ref ki_0), .unset, .unset, .unset, .unset]) at_373 rfl rfl ?_
        refine Go.goto K (q := 393) (by decide) (by decide) at_375 ?_
        refine Go.aload K (q := 395) rfl at_393 rfl rfl ?_
        refine Go.cS K (q := 398) rfl (y := (⟨"com/example/tasklane/tasklane/engine/InstanceState", "fromId", "(Ljava/lang/String;)Ljava/util/Optional;"⟩ : MethodName)) (c_from l Z a0 hw (ca :: xs) n0 h118 (Nat.le_trans Z0 E0.1) st _ (S_st.ext E3) z (Sa.ext E0) hz ki_0 ki_1 va kv (SV.ext E0) (AV.ext E0) (XV.ext E0) si_0 si_1 (I_0.ext E0) (U_0.ext E0) (I_1.ext E0) (U_1.ext E0) oe (SE.ext E0) (XE.ext E0) (FE.ext E0)) (hw _ (List.mem_of_getElem? (i := 53) rfl)) (hw _ (List.mem_of_getElem? (i := 54) rfl)) (hw _ (List.mem_of_getElem? (i := 55) rfl)) (hw _ (List.mem_of_getElem? (i := 56) rfl)) (by decide) pd10 (argsL := [(.ref st)]) (rest := []) rfl rfl rfl rfl (W := 0) (Nat.le_of_eq rfl) (by decide) (by decide) at_395 (cells' := 11) (slots' := 65) rfl rfl (by decide) (by decide) ?_
        intro r121 h120 hQ sz_h120
        obtain ⟨oo, rfl, N_o, X_o, F_o⟩ := hQ
        have E0 := Ext.trans E0 N_o
        have E3 := Ext.trans E3 N_o
        show Go p l e _ s m _ below meth c _ _ _ _ _ _ _ _ _ h120 11 65 (mkF m 398 #[.val (.int mode), .val (.int len), .val (.long lo), .second, .val (.long hig), .second, .val (.int pos), .val (.int ch), .val (.int kd1), .val (.int sb2), .val (.int cc3), .val (.ref st), .val (.ref ki_0), .unset, .unset, .unset, .unset] [(.ref oo)])
        rw [own_find, if_pos e0.symm] at F_o
        refine Go.astore K (q := 400) rfl (L' := #[.val (.int mode), .val (.int len), .val (.long lo), .second, .val (.long hig), .second, .val (.int pos), .val (.int ch), .val (.int kd1), .val (.int sb2), .val (.int cc3), .val (.ref st), .val (.ref ki_0), .val (.ref oo), .unset, .unset, .unset]) at_398 rfl rfl ?_
        refine Go.aload K (q := 402) rfl at_400 rfl rfl ?_
        refine Go.ifnonnullY K (q := 407) (by decide) (by decide) at_402 ?_
        refine Go.aload K (q := 409) rfl at_407 rfl rfl ?_
        refine Go.cV K (q := 412) rfl (y := (⟨"java/util/Optional", "isPresent", "()Z"⟩ : MethodName)) (z := (⟨"java/util/Optional", "isPresent", "()Z"⟩ : MethodName)) (c_oip1 l Z a0 hw (ca :: xs) n0 h120 (Nat.le_trans Z0 E0.1) oo ki_0 F_o) (hw _ (List.mem_of_getElem? (i := 82) rfl)) (hw _ (List.mem_of_getElem? (i := 83) rfl)) (nfS (hw _ (List.mem_of_getElem? (i := 85) rfl))) (hw _ (List.mem_of_getElem? (i := 85) rfl)) (hw _ (List.mem_of_getElem? (i := 84) rfl)) (hw _ (List.mem_of_getElem? (i := 79) rfl)) (hw _ (List.mem_of_getElem? (i := 86) rfl)) (by decide) (isa_of X_o) pd11 (argsL := []) (rest := []) rfl rfl rfl rfl (W := 0) (Nat.le_of_eq rfl) (by decide) (by decide) at_409 (cells' := 11) (slots' := 65) rfl rfl (by decide) (by decide) ?_
        intro r123 h122 hQ sz_h122
        obtain ⟨rfl, rfl⟩ := hQ
        show Go p l e _ s m _ below meth c _ _ _ _ _ _ _ _ _ h120 11 65 (mkF m 412 #[.val (.int mode), .val (.int len), .val (.long lo), .second, .val (.long hig), .second, .val (.int pos), .val (.int ch), .val (.int kd1), .val (.int sb2), .val (.int cc3), .val (.ref st), .val (.ref ki_0), .val (.ref oo), .unset, .unset, .unset] [(.int (1 : Int32))])
        refine Go.ifN K (q := 415) rfl at_412 (show ¬ (1 : Int32) = (0 : Int32) from (by decide)) ?_
        refine Go.aload K (q := 417) rfl at_415 rfl rfl ?_
        refine Go.cV K (q := 420) rfl (y := (⟨"java/util/Optional", "get", "()Ljava/lang/Object;"⟩ : MethodName)) (z := (⟨"java/util/Optional", "get", "()Ljava/lang/Object;"⟩ : MethodName)) (c_og l Z a0 hw (ca :: xs) n0 h120 (Nat.le_trans Z0 E0.1) oo ki_0 F_o) (hw _ (List.mem_of_getElem? (i := 138) rfl)) (hw _ (List.mem_of_getElem? (i := 139) rfl)) (nfS (hw _ (List.mem_of_getElem? (i := 141) rfl))) (hw _ (List.mem_of_getElem? (i := 141) rfl)) (hw _ (List.mem_of_getElem? (i := 140) rfl)) (hw _ (List.mem_of_getElem? (i := 79) rfl)) (hw _ (List.mem_of_getElem? (i := 142) rfl)) (by decide) (isa_of X_o) pd12 (argsL := []) (rest := []) rfl rfl rfl rfl (W := 0) (Nat.le_of_eq rfl) (by decide) (by decide) at_417 (cells' := 11) (slots' := 65) rfl rfl (by decide) (by decide) ?_
        intro r125 h124 hQ sz_h124
        obtain ⟨rfl, rfl⟩ := hQ
        show Go p l e _ s m _ below meth c _ _ _ _ _ _ _ _ _ h120 11 65 (mkF m 420 #[.val (.int mode), .val (.int len), .val (.long lo), .second, .val (.long hig), .second, .val (.int pos), .val (.int ch), .val (.int kd1), .val (.int sb2), .val (.int cc3), .val (.ref st), .val (.ref ki_0), .val (.ref oo), .unset, .unset, .unset] [(.ref ki_0)])
        refine Go.castY K (q := 423) rfl (hw _ (List.mem_of_getElem? (i := 143) rfl)) (Ins.self (X_0.ext E0)) at_420 ?_
        refine Go.goto K (q := 427) (by decide) (by decide) at_423 ?_
        refine Go.astore K (q := 429) rfl (L' := #[.val (.int mode), .val (.int len), .val (.long lo), .second, .val (.long hig), .second, .val (.int pos), .val (.int ch), .val (.int kd1), .val (.int sb2), .val (.int cc3), .val (.ref st), .val (.ref ki_0), .val (.ref oo), .val (.ref ki_0), .unset, .unset]) at_427 rfl rfl ?_
        refine Go.aload K (q := 431) rfl at_429 rfl rfl ?_
        refine Go.aload K (q := 433) rfl at_431 rfl rfl ?_
        refine Go.acmp K (q := 436) rfl rfl (same := true) (decide_eq_true rfl) (by decide) (by decide) at_433 ?_
        refine Go.iconst K (q := 437) rfl (v := (1 : Int32)) (by decide) at_436 ?_
        refine Go.goto K (q := 441) (by decide) (by decide) at_437 ?_
        exact Go.retN K (by simp) at_441 (by decide) (by decide) (fun _ q => (List.mem_cons_of_mem _ q)) (rfl)
      · skip
        refine Go.ifY K (q := 378) (by decide) (by decide) at_367 (show (0 : Int32) = (0 : Int32) from rfl) ?_
        refine Go.aload K (q := 380) rfl at_378 rfl rfl ?_
        refine Go.ldcS K (q := 382) rfl (text := "completed") (by decide) (hw _ (List.mem_of_getElem? (i := 52) rfl)) own_atoms (by decide) at_380 (n := 36) (by decide) (by decide) (cells' := 11) (slots' := 102) rfl rfl (by decide) (by decide) ?_
        intro h126 s127 N_s127 T_s127
        have E0 := Ext.trans E0 N_s127
        have E3 := Ext.trans E3 N_s127
        have S_l : Str Z h126 s127 [(99 : Int32), (111 : Int32), (109 : Int32), (112 : Int32), (108 : Int32), (101 : Int32), (116 : Int32), (101 : Int32), (100 : Int32)] := by rw [← own_t1]; exact Str.lit (by decide) (by decide) T_s127
        refine Go.strEq K (q := 385) rfl (own_wordsEq hw) (hw _ (List.mem_of_getElem? (i := 11) rfl)) (y := (⟨"java/lang/String", "equals", "(Ljava/lang/Object;)Z"⟩ : MethodName)) (hw _ (List.mem_of_getElem? (i := 42) rfl)) (hw _ (List.mem_of_getElem? (i := 43) rfl)) (nfS (hw _ (List.mem_of_getElem? (i := 45) rfl))) (hw _ (List.mem_of_getElem? (i := 45) rfl)) (hw _ (List.mem_of_getElem? (i := 44) rfl)) (by decide) rfl (S_st.ext E3) (S_l) (Sa.ext E0) hz at_382 (by decide) rfl (W := 0) (Nat.le_of_eq rfl) (by decide) (by decide) (by decide) (fun e1 => ?_) (fun e1 => ?_)
        · skip
          refine Go.ifN K (q := 388) rfl at_385 (show ¬ (1 : Int32) = (0 : Int32) from (by decide)) ?_
          refine Go.getS K (q := 391) rfl (hw _ (List.mem_of_getElem? (i := 123) rfl)) Via.refl ((T_1.ext E0)) at_388 ?_
          refine Go.astore K (q := 393) rfl (L' := #[.val (.int mode), .val (.int len), .val (.long lo), .second, .val (.long hig), .second, .val (.int pos), .val (.int ch), .val (.int kd1), .val (.int sb2), .val (.int cc3), .val (.ref st), .val (.ref ki_1), .unset, .unset, .unset, .unset]) at_391 rfl rfl ?_
          refine Go.aload K (q := 395) rfl at_393 rfl rfl ?_
          refine Go.cS K (q := 398) rfl (y := (⟨"com/example/tasklane/tasklane/engine/InstanceState", "fromId", "(Ljava/lang/String;)Ljava/util/Optional;"⟩ : MethodName)) (c_from l Z a0 hw (ca :: xs) n0 h126 (Nat.le_trans Z0 E0.1) st _ (S_st.ext E3) z (Sa.ext E0) hz ki_0 ki_1 va kv (SV.ext E0) (AV.ext E0) (XV.ext E0) si_0 si_1 (I_0.ext E0) (U_0.ext E0) (I_1.ext E0) (U_1.ext E0) oe (SE.ext E0) (XE.ext E0) (FE.ext E0)) (hw _ (List.mem_of_getElem? (i := 53) rfl)) (hw _ (List.mem_of_getElem? (i := 54) rfl)) (hw _ (List.mem_of_getElem? (i := 55) rfl)) (hw _ (List.mem_of_getElem? (i := 56) rfl)) (by decide) pd10 (argsL := [(.ref st)]) (rest := []) rfl rfl rfl rfl (W := 0) (Nat.le_of_eq rfl) (by decide) (by decide) at_395 (cells' := 13) (slots' := 105) rfl rfl (by decide) (by decide) ?_
          intro r129 h128 hQ sz_h128
          obtain ⟨oo, rfl, N_o, X_o, F_o⟩ := hQ
          have E0 := Ext.trans E0 N_o
          have E3 := Ext.trans E3 N_o
          show Go p l e _ s m _ below meth c _ _ _ _ _ _ _ _ _ h128 13 105 (mkF m 398 #[.val (.int mode), .val (.int len), .val (.long lo), .second, .val (.long hig), .second, .val (.int pos), .val (.int ch), .val (.int kd1), .val (.int sb2), .val (.int cc3), .val (.ref st), .val (.ref ki_1), .unset, .unset, .unset, .unset] [(.ref oo)])
          rw [own_find, if_neg (fun q => e0 q.symm), if_pos e1.symm] at F_o
          refine Go.astore K (q := 400) rfl (L' := #[.val (.int mode), .val (.int len), .val (.long lo), .second, .val (.long hig), .second, .val (.int pos), .val (.int ch), .val (.int kd1), .val (.int sb2), .val (.int cc3), .val (.ref st), .val (.ref ki_1), .val (.ref oo), .unset, .unset, .unset]) at_398 rfl rfl ?_
          refine Go.aload K (q := 402) rfl at_400 rfl rfl ?_
          refine Go.ifnonnullY K (q := 407) (by decide) (by decide) at_402 ?_
          refine Go.aload K (q := 409) rfl at_407 rfl rfl ?_
          refine Go.cV K (q := 412) rfl (y := (⟨"java/util/Optional", "isPresent", "()Z"⟩ : MethodName)) (z := (⟨"java/util/Optional", "isPresent", "()Z"⟩ : MethodName)) (c_oip1 l Z a0 hw (ca :: xs) n0 h128 (Nat.le_trans Z0 E0.1) oo ki_1 F_o) (hw _ (List.mem_of_getElem? (i := 82) rfl)) (hw _ (List.mem_of_getElem? (i := 83) rfl)) (nfS (hw _ (List.mem_of_getElem? (i := 85) rfl))) (hw _ (List.mem_of_getElem? (i := 85) rfl)) (hw _ (List.mem_of_getElem? (i := 84) rfl)) (hw _ (List.mem_of_getElem? (i := 79) rfl)) (hw _ (List.mem_of_getElem? (i := 86) rfl)) (by decide) (isa_of X_o) pd11 (argsL := []) (rest := []) rfl rfl rfl rfl (W := 0) (Nat.le_of_eq rfl) (by decide) (by decide) at_409 (cells' := 13) (slots' := 105) rfl rfl (by decide) (by decide) ?_
          intro r131 h130 hQ sz_h130
          obtain ⟨rfl, rfl⟩ := hQ
          show Go p l e _ s m _ below meth c _ _ _ _ _ _ _ _ _ h128 13 105 (mkF m 412 #[.val (.int mode), .val (.int len), .val (.long lo), .second, .val (.long hig), .second, .val (.int pos), .val (.int ch), .val (.int kd1), .val (.int sb2), .val (.int cc3), .val (.ref st), .val (.ref ki_1), .val (.ref oo), .unset, .unset, .unset] [(.int (1 : Int32))])
          refine Go.ifN K (q := 415) rfl at_412 (show ¬ (1 : Int32) = (0 : Int32) from (by decide)) ?_
          refine Go.aload K (q := 417) rfl at_415 rfl rfl ?_
          refine Go.cV K (q := 420) rfl (y := (⟨"java/util/Optional", "get", "()Ljava/lang/Object;"⟩ : MethodName)) (z := (⟨"java/util/Optional", "get", "()Ljava/lang/Object;"⟩ : MethodName)) (c_og l Z a0 hw (ca :: xs) n0 h128 (Nat.le_trans Z0 E0.1) oo ki_1 F_o) (hw _ (List.mem_of_getElem? (i := 138) rfl)) (hw _ (List.mem_of_getElem? (i := 139) rfl)) (nfS (hw _ (List.mem_of_getElem? (i := 141) rfl))) (hw _ (List.mem_of_getElem? (i := 141) rfl)) (hw _ (List.mem_of_getElem? (i := 140) rfl)) (hw _ (List.mem_of_getElem? (i := 79) rfl)) (hw _ (List.mem_of_getElem? (i := 142) rfl)) (by decide) (isa_of X_o) pd12 (argsL := []) (rest := []) rfl rfl rfl rfl (W := 0) (Nat.le_of_eq rfl) (by decide) (by decide) at_417 (cells' := 13) (slots' := 105) rfl rfl (by decide) (by decide) ?_
          intro r133 h132 hQ sz_h132
          obtain ⟨rfl, rfl⟩ := hQ
          show Go p l e _ s m _ below meth c _ _ _ _ _ _ _ _ _ h128 13 105 (mkF m 420 #[.val (.int mode), .val (.int len), .val (.long lo), .second, .val (.long hig), .second, .val (.int pos), .val (.int ch), .val (.int kd1), .val (.int sb2), .val (.int cc3), .val (.ref st), .val (.ref ki_1), .val (.ref oo), .unset, .unset, .unset] [(.ref ki_1)])
          refine Go.castY K (q := 423) rfl (hw _ (List.mem_of_getElem? (i := 143) rfl)) (Ins.self (X_1.ext E0)) at_420 ?_
          refine Go.goto K (q := 427) (by decide) (by decide) at_423 ?_
          refine Go.astore K (q := 429) rfl (L' := #[.val (.int mode), .val (.int len), .val (.long lo), .second, .val (.long hig), .second, .val (.int pos), .val (.int ch), .val (.int kd1), .val (.int sb2), .val (.int cc3), .val (.ref st), .val (.ref ki_1), .val (.ref oo), .val (.ref ki_1), .unset, .unset]) at_427 rfl rfl ?_
          refine Go.aload K (q := 431) rfl at_429 rfl rfl ?_
          refine Go.aload K (q := 433) rfl at_431 rfl rfl ?_
          refine Go.acmp K (q := 436) rfl rfl (same := true) (decide_eq_true rfl) (by decide) (by decide) at_433 ?_
          refine Go.iconst K (q := 437) rfl (v := (1 : Int32)) (by decide) at_436 ?_
          refine Go.goto K (q := 441) (by decide) (by decide) at_437 ?_
          exact Go.retN K (by simp) at_441 (by decide) (by decide) (fun _ q => (List.mem_cons_of_mem _ q)) (rfl)
        · skip
          refine Go.ifY K (q := 393) (by decide) (by decide) at_385 (show (0 : Int32) = (0 : Int32) from rfl) ?_
          refine Go.aload K (q := 395) rfl at_393 rfl rfl ?_
          refine Go.cS K (q := 398) rfl (y := (⟨"com/example/tasklane/tasklane/engine/InstanceState", "fromId", "(Ljava/lang/String;)Ljava/util/Optional;"⟩ : MethodName)) (c_from l Z a0 hw (ca :: xs) n0 h126 (Nat.le_trans Z0 E0.1) st _ (S_st.ext E3) z (Sa.ext E0) hz ki_0 ki_1 va kv (SV.ext E0) (AV.ext E0) (XV.ext E0) si_0 si_1 (I_0.ext E0) (U_0.ext E0) (I_1.ext E0) (U_1.ext E0) oe (SE.ext E0) (XE.ext E0) (FE.ext E0)) (hw _ (List.mem_of_getElem? (i := 53) rfl)) (hw _ (List.mem_of_getElem? (i := 54) rfl)) (hw _ (List.mem_of_getElem? (i := 55) rfl)) (hw _ (List.mem_of_getElem? (i := 56) rfl)) (by decide) pd10 (argsL := [(.ref st)]) (rest := []) rfl rfl rfl rfl (W := 0) (Nat.le_of_eq rfl) (by decide) (by decide) at_395 (cells' := 13) (slots' := 105) rfl rfl (by decide) (by decide) ?_
          intro r135 h134 hQ sz_h134
          obtain ⟨oo, rfl, N_o, X_o, F_o⟩ := hQ
          have E0 := Ext.trans E0 N_o
          have E3 := Ext.trans E3 N_o
          show Go p l e _ s m _ below meth c _ _ _ _ _ _ _ _ _ h134 13 105 (mkF m 398 #[.val (.int mode), .val (.int len), .val (.long lo), .second, .val (.long hig), .second, .val (.int pos), .val (.int ch), .val (.int kd1), .val (.int sb2), .val (.int cc3), .val (.ref st), .val .null, .unset, .unset, .unset, .unset] [(.ref oo)])
          rw [own_find, if_neg (fun q => e0 q.symm), if_neg (fun q => e1 q.symm)] at F_o
          refine Go.astore K (q := 400) rfl (L' := #[.val (.int mode), .val (.int len), .val (.long lo), .second, .val (.long hig), .second, .val (.int pos), .val (.int ch), .val (.int kd1), .val (.int sb2), .val (.int cc3), .val (.ref st), .val .null, .val (.ref oo), .unset, .unset, .unset]) at_398 rfl rfl ?_
          refine Go.aload K (q := 402) rfl at_400 rfl rfl ?_
          refine Go.ifnonnullY K (q := 407) (by decide) (by decide) at_402 ?_
          refine Go.aload K (q := 409) rfl at_407 rfl rfl ?_
          refine Go.cV K (q := 412) rfl (y := (⟨"java/util/Optional", "isPresent", "()Z"⟩ : MethodName)) (z := (⟨"java/util/Optional", "isPresent", "()Z"⟩ : MethodName)) (c_oip0 l Z a0 hw (ca :: xs) n0 h134 (Nat.le_trans Z0 E0.1) oo F_o) (hw _ (List.mem_of_getElem? (i := 82) rfl)) (hw _ (List.mem_of_getElem? (i := 83) rfl)) (nfS (hw _ (List.mem_of_getElem? (i := 85) rfl))) (hw _ (List.mem_of_getElem? (i := 85) rfl)) (hw _ (List.mem_of_getElem? (i := 84) rfl)) (hw _ (List.mem_of_getElem? (i := 79) rfl)) (hw _ (List.mem_of_getElem? (i := 86) rfl)) (by decide) (isa_of X_o) pd11 (argsL := []) (rest := []) rfl rfl rfl rfl (W := 0) (Nat.le_of_eq rfl) (by decide) (by decide) at_409 (cells' := 13) (slots' := 105) rfl rfl (by decide) (by decide) ?_
          intro r137 h136 hQ sz_h136
          obtain ⟨rfl, rfl⟩ := hQ
          show Go p l e _ s m _ below meth c _ _ _ _ _ _ _ _ _ h134 13 105 (mkF m 412 #[.val (.int mode), .val (.int len), .val (.long lo), .second, .val (.long hig), .second, .val (.int pos), .val (.int ch), .val (.int kd1), .val (.int sb2), .val (.int cc3), .val (.ref st), .val .null, .val (.ref oo), .unset, .unset, .unset] [(.int (0 : Int32))])
          refine Go.ifY K (q := 426) (by decide) (by decide) at_412 (show (0 : Int32) = (0 : Int32) from rfl) ?_
          refine Go.aconstNull K (q := 427) rfl at_426 ?_
          refine Go.astore K (q := 429) rfl (L' := #[.val (.int mode), .val (.int len), .val (.long lo), .second, .val (.long hig), .second, .val (.int pos), .val (.int ch), .val (.int kd1), .val (.int sb2), .val (.int cc3), .val (.ref st), .val .null, .val (.ref oo), .val .null, .unset, .unset]) at_427 rfl rfl ?_
          refine Go.aload K (q := 431) rfl at_429 rfl rfl ?_
          refine Go.aload K (q := 433) rfl at_431 rfl rfl ?_
          refine Go.acmp K (q := 436) rfl rfl (same := true) (decide_eq_true rfl) (by decide) (by decide) at_433 ?_
          refine Go.iconst K (q := 437) rfl (v := (1 : Int32)) (by decide) at_436 ?_
          refine Go.goto K (q := 441) (by decide) (by decide) at_437 ?_
          exact Go.retN K (by simp) at_441 (by decide) (by decide) (fun _ q => (List.mem_cons_of_mem _ q)) (rfl)
  · skip
    refine Go.aconstNull K (q := 28) rfl at_27 ?_
    refine Go.astore K (q := 30) rfl (L' := #[.val (.int mode), .val (.int len), .val (.long lo), .second, .val (.long hig), .second, .val (.int pos), .val (.int ch), .val (.int kd1), .val (.int sb2), .val (.int cc3), .val .null, .unset, .unset, .unset, .unset, .unset]) at_28 rfl rfl ?_
    refine Go.goto K (q := 352) (by decide) (by decide) at_30 ?_
    refine Go.aconstNull K (q := 353) rfl at_352 ?_
    refine Go.astore K (q := 355) rfl (L' := #[.val (.int mode), .val (.int len), .val (.long lo), .second, .val (.long hig), .second, .val (.int pos), .val (.int ch), .val (.int kd1), .val (.int sb2), .val (.int cc3), .val .null, .val .null, .unset, .unset, .unset, .unset]) at_353 rfl rfl ?_
    refine Go.aload K (q := 357) rfl at_355 rfl rfl ?_
    refine Go.ifnullY K (q := 393) (by decide) (by decide) at_357 ?_
    refine Go.aload K (q := 395) rfl at_393 rfl rfl ?_
    refine Go.cS K (q := 398) rfl (y := (⟨"com/example/tasklane/tasklane/engine/InstanceState", "fromId", "(Ljava/lang/String;)Ljava/util/Optional;"⟩ : MethodName)) (c_fromN l Z a0 hw xs n0 h (Nat.le_trans Z0 E0.1) ki_0 ki_1 va kv (SV.ext E0) (AV.ext E0) (XV.ext E0) si_0 si_1 (I_0.ext E0) (U_0.ext E0) (I_1.ext E0) (U_1.ext E0) oe (SE.ext E0) (XE.ext E0) (FE.ext E0)) (hw _ (List.mem_of_getElem? (i := 53) rfl)) (hw _ (List.mem_of_getElem? (i := 54) rfl)) (hw _ (List.mem_of_getElem? (i := 55) rfl)) (hw _ (List.mem_of_getElem? (i := 56) rfl)) (by decide) pd10 (argsL := [.null]) (rest := []) rfl rfl rfl rfl (W := 0) (Nat.le_of_eq rfl) (by decide) (by decide) at_395 (cells' := 1) (slots' := 2) rfl rfl (by decide) (by decide) ?_
    intro r139 h138 hQ sz_h138
    obtain ⟨oo, rfl, N_o, X_o, F_o⟩ := hQ
    have E0 := Ext.trans E0 N_o
    show Go p l e _ s m _ below meth c _ _ _ _ _ _ _ _ _ h138 1 2 (mkF m 398 #[.val (.int mode), .val (.int len), .val (.long lo), .second, .val (.long hig), .second, .val (.int pos), .val (.int ch), .val (.int kd1), .val (.int sb2), .val (.int cc3), .val .null, .val .null, .unset, .unset, .unset, .unset] [(.ref oo)])
    refine Go.astore K (q := 400) rfl (L' := #[.val (.int mode), .val (.int len), .val (.long lo), .second, .val (.long hig), .second, .val (.int pos), .val (.int ch), .val (.int kd1), .val (.int sb2), .val (.int cc3), .val .null, .val .null, .val (.ref oo), .unset, .unset, .unset]) at_398 rfl rfl ?_
    refine Go.aload K (q := 402) rfl at_400 rfl rfl ?_
    refine Go.ifnonnullY K (q := 407) (by decide) (by decide) at_402 ?_
    refine Go.aload K (q := 409) rfl at_407 rfl rfl ?_
    refine Go.cV K (q := 412) rfl (y := (⟨"java/util/Optional", "isPresent", "()Z"⟩ : MethodName)) (z := (⟨"java/util/Optional", "isPresent", "()Z"⟩ : MethodName)) (c_oip0 l Z a0 hw xs n0 h138 (Nat.le_trans Z0 E0.1) oo F_o) (hw _ (List.mem_of_getElem? (i := 82) rfl)) (hw _ (List.mem_of_getElem? (i := 83) rfl)) (nfS (hw _ (List.mem_of_getElem? (i := 85) rfl))) (hw _ (List.mem_of_getElem? (i := 85) rfl)) (hw _ (List.mem_of_getElem? (i := 84) rfl)) (hw _ (List.mem_of_getElem? (i := 79) rfl)) (hw _ (List.mem_of_getElem? (i := 86) rfl)) (by decide) (isa_of X_o) pd11 (argsL := []) (rest := []) rfl rfl rfl rfl (W := 0) (Nat.le_of_eq rfl) (by decide) (by decide) at_409 (cells' := 1) (slots' := 2) rfl rfl (by decide) (by decide) ?_
    intro r141 h140 hQ sz_h140
    obtain ⟨rfl, rfl⟩ := hQ
    show Go p l e _ s m _ below meth c _ _ _ _ _ _ _ _ _ h138 1 2 (mkF m 412 #[.val (.int mode), .val (.int len), .val (.long lo), .second, .val (.long hig), .second, .val (.int pos), .val (.int ch), .val (.int kd1), .val (.int sb2), .val (.int cc3), .val .null, .val .null, .val (.ref oo), .unset, .unset, .unset] [(.int (0 : Int32))])
    refine Go.ifY K (q := 426) (by decide) (by decide) at_412 (show (0 : Int32) = (0 : Int32) from rfl) ?_
    refine Go.aconstNull K (q := 427) rfl at_426 ?_
    refine Go.astore K (q := 429) rfl (L' := #[.val (.int mode), .val (.int len), .val (.long lo), .second, .val (.long hig), .second, .val (.int pos), .val (.int ch), .val (.int kd1), .val (.int sb2), .val (.int cc3), .val .null, .val .null, .val (.ref oo), .val .null, .unset, .unset]) at_427 rfl rfl ?_
    refine Go.aload K (q := 431) rfl at_429 rfl rfl ?_
    refine Go.aload K (q := 433) rfl at_431 rfl rfl ?_
    refine Go.acmp K (q := 436) rfl rfl (same := true) (decide_eq_true rfl) (by decide) (by decide) at_433 ?_
    refine Go.iconst K (q := 437) rfl (v := (1 : Int32)) (by decide) at_436 ?_
    refine Go.goto K (q := 441) (by decide) (by decide) at_437 ?_
    exact Go.retN K (by simp) at_441 (by decide) (by decide) (fun _ q => q) (rfl)
set_option maxRecDepth 65536 in
set_option maxHeartbeats 40000000 in
theorem comes_1 {Post : Tables → Env → Array Value → State → Outcome → State → Prop} (hpost : ∀ tb e args s v u, (limb_1_1.after args s (.returned v) u = true ∧ limb_1_2.after args s (.returned v) u = true ∧ True) → ReturnedEndW s (.returned v) u (Jvm.fieldLocs frame_1_writes args s ++ Jvm.arrayLocs frame_1_arrays args s ++ Jvm.staticLocs frame_1_statics s) 32 3264 → Post tb e args s (.returned v) u) :
    ArmFor flags0 classFile x code maxLocals ret World_1 tables_1 room_1 Calls_1 rest_1 Pre_1 Post := by
  intro l hfl _ _ p e ha hc hk s m args below hf hA hF happ hP
  obtain ⟨hcalls, hrest, hpre⟩ := hP
  obtain ⟨-, -, -, hnamed, -, -, -, hat⟩ := (Spec.applies_iff hf).mp happ
  obtain ⟨hg, hn⟩ := and_e (Cond.before_iff.mp (show (Jvm.Cond.and given_1 narrow_1).before args s = true from hpre))
  obtain ⟨h1, k0⟩ := and_e hg
  obtain ⟨g0, k1⟩ := and_e k0
  obtain ⟨g1, k2⟩ := and_e k1
  obtain ⟨g2, k3⟩ := and_e k2
  obtain ⟨g3, k4⟩ := and_e k3
  obtain ⟨g4, k5⟩ := and_e k4
  obtain ⟨w0, w1, w2, w3, w4, w5, rfl⟩ : ∃ w0 w1 w2 w3 w4 w5 : Value, args = #[w0, w1, w2, w3, w4, w5] := by
    have hs : args.size = 6 := by simpa [Cond.value, given_1] using h1
    obtain ⟨L⟩ := args
    match L, hs with
    | [w0, w1, w2, w3, w4, w5], _ => exact ⟨w0, w1, w2, w3, w4, w5, rfl⟩
  have hw := fun d (hd : d ∈ tables_1) => atoms_spec (ws := Jvm.Cond.code x code maxLocals ret :: tables_1) hat d (List.mem_cons_of_mem _ hd)
  obtain ⟨hsets, hown0⟩ := atoms_of _ (rest_1_c_eq ▸ (show rest_1_c.before _ s = true from hrest))
  have hfit : Fit s := fun {y c} hc i hi => by
    obtain ⟨ha, rfl⟩ := Array.getElem?_eq_some_iff.mp hc
    have q := List.all_eq_true.mp ((Array.all_eq_true_iff_forall_mem.mp hF) _ (Array.getElem_mem ha)) i (List.mem_range.mpr hi)
    simpa [Array.getElem?_eq_getElem hi] using q
  obtain ⟨i0, q0⟩ := is_v g0
  obtain rfl : w0 = (.int i0) := Option.some.inj q0
  obtain ⟨i1, q1⟩ := is_v g1
  obtain rfl : w1 = (.int i1) := Option.some.inj q1
  obtain ⟨i2, q2⟩ := isL_v g2
  obtain rfl : w2 = (.long i2) := Option.some.inj q2
  obtain ⟨i3, q3⟩ := isL_v g3
  obtain rfl : w3 = (.long i3) := Option.some.inj q3
  obtain ⟨i4, q4⟩ := is_v g4
  obtain rfl : w4 = (.int i4) := Option.some.inj q4
  obtain ⟨i5, q5⟩ := is_v k5
  obtain rfl : w5 = (.int i5) := Option.some.inj q5
  have n5 := not_v (Cond.before_iff.mp (hsets _ (List.mem_of_getElem? (i := 2) rfl)))
  obtain ⟨zs, ez⟩ := is_v (Cond.before_iff.mp (hsets _ (List.mem_of_getElem? (i := 1) rfl)))
  have Sa : Sta s s.heap "java/lang/String" "COMPACT_STRINGS" "Z" (.int zs) := Sta.start ez (Or.inl (hsets _ (List.mem_of_getElem? (i := 0) rfl)))
  have hz : ¬ (zs = (0 : Int32)) := gotF (Cond.eq_ints ez (Term.int_eval (0))) n5
  obtain ⟨n0_, hn⟩ := and_e hn
  obtain ⟨n1_, hn⟩ := and_e hn
  obtain ⟨n2_, hn⟩ := and_e hn
  obtain ⟨n3_, hn⟩ := and_e hn
  obtain ⟨n4_, hn⟩ := and_e hn
  obtain ⟨n5_, hn⟩ := and_e hn
  obtain ⟨n6_, hn⟩ := and_e hn
  obtain ⟨n7_, hn⟩ := and_e hn
  obtain ⟨n8_, hn⟩ := and_e hn
  obtain ⟨n9_, hn⟩ := and_e hn
  obtain ⟨n10_, hn⟩ := and_e hn
  obtain ⟨n11_, hn⟩ := and_e hn
  obtain ⟨n12_, hn⟩ := and_e hn
  obtain ⟨n13_, hn⟩ := and_e hn
  obtain ⟨n14_, hn⟩ := and_e hn
  obtain ⟨n15_, hn⟩ := and_e hn
  obtain ⟨n16_, hn⟩ := and_e hn
  obtain ⟨n17_, hn⟩ := and_e hn
  obtain ⟨n18_, hn⟩ := and_e hn
  obtain ⟨n19_, hn⟩ := and_e hn
  obtain ⟨n20_, hn⟩ := and_e hn
  obtain ⟨n21_, hn⟩ := and_e hn
  obtain ⟨n22_, hn⟩ := and_e hn
  obtain ⟨n23_, hn⟩ := and_e hn
  obtain ⟨n24_, hn⟩ := and_e hn
  obtain ⟨n25_, hn⟩ := and_e hn
  obtain ⟨n26_, hn⟩ := and_e hn
  obtain ⟨n27_, hn⟩ := and_e hn
  obtain ⟨n28_, hn⟩ := and_e hn
  have n29_ := hn
  obtain ⟨ki_0, et_0⟩ := exa_v n3_
  have ek_0 := Cond.eq_refs (Cond.before_iff.mpr n4_) et_0 rfl
  have T_0 : Sta s s.heap "com/example/tasklane/tasklane/engine/InstanceState" "ACTIVE" "Lcom/example/tasklane/tasklane/engine/InstanceState;" (.ref ki_0) := Sta.start et_0 (Or.inr ⟨(hw _ (List.mem_of_getElem? (i := 55) rfl)), (hw _ (List.mem_of_getElem? (i := 69) rfl))⟩)
  have X_0 := Exa.start et_0 n3_
  obtain ⟨ki_1, et_1⟩ := exa_v n5_
  have ek_1 := Cond.eq_refs (Cond.before_iff.mpr n6_) et_1 rfl
  have T_1 : Sta s s.heap "com/example/tasklane/tasklane/engine/InstanceState" "COMPLETED" "Lcom/example/tasklane/tasklane/engine/InstanceState;" (.ref ki_1) := Sta.start et_1 (Or.inr ⟨(hw _ (List.mem_of_getElem? (i := 55) rfl)), (hw _ (List.mem_of_getElem? (i := 70) rfl))⟩)
  have X_1 := Exa.start et_1 n5_
  obtain ⟨va, eva⟩ := exa_v n1_
  have SV : Sta s s.heap "com/example/tasklane/tasklane/engine/InstanceState" "$VALUES" "[Lcom/example/tasklane/tasklane/engine/InstanceState;" (.ref va) := Sta.start eva (Or.inl (hw _ (List.mem_of_getElem? (i := 71) rfl)))
  have XV := Exa.start eva n1_
  obtain ⟨kv, AV⟩ := arv_start (z := (2 : Int32)) (vs := [.ref ki_0, .ref ki_1]) (dv := .null) hfit eva n0_ (Cond.eq_int (Cond.before_iff.mpr n2_) rfl) (by decide) rfl (fun i h => by
    match i, h with
    | 0, _ => exact ek_0
    | 1, _ => exact ek_1
    | n + 2, h => exact absurd (show n + 2 < 2 from h) (by omega))
  obtain ⟨si_0, es_0⟩ := exa_v n7_
  have I_0 : Fld s s.heap ki_0 "com/example/tasklane/tasklane/engine/InstanceState" "id" "Ljava/lang/String;" (.ref si_0) := Fld.start ((fld_at et_0).symm.trans es_0)
  have U_0 : Str s s.heap si_0 [(97 : Int32), (99 : Int32), (116 : Int32), (105 : Int32), (118 : Int32), (101 : Int32)] := by
    exact str_start hfit es_0 n7_ n8_ n9_ n10_ (fun i h => by
      match i, h with
      | 0, _ => exact n15_
      | 1, _ => exact n16_
      | 2, _ => exact n17_
      | 3, _ => exact n18_
      | 4, _ => exact n19_
      | 5, _ => exact n20_
      | n + 6, h => exact absurd (show n + 6 < 6 from h) (by omega)) (by decide) (by decide)
  obtain ⟨si_1, es_1⟩ := exa_v n11_
  have I_1 : Fld s s.heap ki_1 "com/example/tasklane/tasklane/engine/InstanceState" "id" "Ljava/lang/String;" (.ref si_1) := Fld.start ((fld_at et_1).symm.trans es_1)
  have U_1 : Str s s.heap si_1 [(99 : Int32), (111 : Int32), (109 : Int32), (112 : Int32), (108 : Int32), (101 : Int32), (116 : Int32), (101 : Int32), (100 : Int32)] := by
    exact str_start hfit es_1 n11_ n12_ n13_ n14_ (fun i h => by
      match i, h with
      | 0, _ => exact n21_
      | 1, _ => exact n22_
      | 2, _ => exact n23_
      | 3, _ => exact n24_
      | 4, _ => exact n25_
      | 5, _ => exact n26_
      | 6, _ => exact n27_
      | 7, _ => exact n28_
      | 8, _ => exact n29_
      | n + 9, h => exact absurd (show n + 9 < 9 from h) (by omega)) (by decide) (by decide)
  obtain ⟨oe, eoe⟩ := exa_v (Cond.before_iff.mp (hsets _ (List.mem_of_getElem? (i := 11) rfl)))
  have SE : Sta s s.heap "java/util/Optional" "EMPTY" "Ljava/util/Optional;" (.ref oe) := Sta.start eoe (Or.inl (hsets _ (List.mem_of_getElem? (i := 10) rfl)))
  have XE := Exa.start eoe (Cond.before_iff.mp (hsets _ (List.mem_of_getElem? (i := 11) rfl)))
  have FE : Fld s s.heap oe "java/util/Optional" "value" "Ljava/lang/Object;" .null := Fld.start ((fld_at eoe).symm.trans (null_v (Cond.before_iff.mp (hsets _ (List.mem_of_getElem? (i := 12) rfl)))))
  obtain ⟨fm, efm, rf⟩ := isR_v (Cond.before_iff.mp (hsets _ (List.mem_of_getElem? (i := 8) rfl)))
  have Sf : Sta s s.heap "jdk/internal/util/Preconditions" "SIOOBE_FORMATTER" "Ljava/util/function/BiFunction;" fm := Sta.start efm (Or.inl (hsets _ (List.mem_of_getElem? (i := 7) rfl)))
  have wa : (Jvm.Cond.arrayClass .byte).before _ s = true := hw _ (by decide +kernel)
  have wi : (Jvm.Cond.instantiable "java/lang/String" 4).before _ s = true := hw _ (by decide +kernel)
  have HL : Lits s consts_1 [] s.vm s.heap := Lits.start (a0 := _) (fun q hq => hcalls.1 q hq) (fun q hq => by
    simp only [consts_1, List.mem_cons, List.not_mem_nil, or_false] at hq
    rcases hq with rfl | rfl | rfl
    · exact ⟨"active", (hw _ (List.mem_of_getElem? (i := 39) rfl)), by decide⟩
    · exact ⟨"completed", (hw _ (List.mem_of_getElem? (i := 52) rfl)), by decide⟩
    · exact ⟨"", (hw _ (List.mem_of_getElem? (i := 146) rfl)), by decide⟩) (hsets _ (List.mem_of_getElem? (i := 2) rfl)) wa wi
  obtain ⟨n, o, h1, h2, h3, _, L, rfl, ⟨rfl, -, N⟩, hq⟩ := rm0 l s _ hw tables_1 [] s.heap.size s.heap (Nat.le_refl _) i0 i1 i2 i3 i4 i5 zs Sa hz fm rf Sf ki_0 ki_1 va kv SV AV XV si_0 si_1 I_0 U_0 I_1 U_1 oe SE XE FE T_0 X_0 T_1 X_1 p e ha hc hk s m _ below hf ((Spec.applies_iff_loose hf).mp happ).1 ⟨rfl, State.Warmed39.refl s, rfl, HL⟩ trivial
  refine ⟨n, _, h1, h2, h3, hpost _ _ _ _ _ _ ⟨Cond.after_iff.mpr rfl, Cond.after_iff.mpr (eq_i res_at (Term.int_eval (1)) rfl), trivial⟩ ⟨hq.1, hq.2.1, hq.2.2.1, (hq.2.2.2.sift fun y hy => Or.inr (N y hy)).mono (by decide) (by decide)⟩⟩
theorem main_1_1 : Claimed_1_1 := comes_1 fun _ _ _ _ _ _ h hF => ⟨h.1, hF⟩
theorem main_1_2 : Claimed_1_2 := comes_1 fun _ _ _ _ _ _ h hF => ⟨h.2.1, hF⟩
end Jvm.Pilot.@@N@@
namespace Jvm.Pilot.@@N@@
open Jvm Jvm.ClassFile Sem Op Lib Jvm.Free Jvm.Stand Jvm.Pilot.@@N@@.Jvm.D
/-! MADE BY PROGRAM (witnessworld.py) out of the Statement's table words and the real class files: 24 classes; the members and pool entries that the words name. The judged class is class 1, her method 1. -/
namespace start1
open Jvm.ClassFile
def u (s : String) : CpInfo := .utf8 (stringToUtf16 s)
/-- a pool by its gaps: so many unusable entries, then the entry; so many at the end -/
def gap : Nat → List CpInfo → List CpInfo
  | 0, r => r
  | n + 1, r => .unusable :: gap n r
def poolList (es : List (Nat × CpInfo)) (last : Nat) : List CpInfo := es.foldr (fun e r => gap e.1 (e.2 :: r)) (gap last [])
def pool (es : List (Nat × CpInfo)) (last : Nat) : Array CpInfo := ⟨poolList es last⟩
def fileOf (pool : Array CpInfo) (this : Nat) (attrs : Array Attribute := #[]) (ms : Array MethodInfo := #[]) (fl : Nat := 33) (sup : Nat := 0) (ifs : Array Nat := #[]) (fds : Array FieldInfo := #[]) : ClassFile where
  minorVersion := 0
  majorVersion := 65
  constantPool := pool
  accessFlags := fl
  thisClass := this
  superClass := sup
  interfaces := ifs
  fields := fds
  methods := ms
  attributes := attrs
def plain (name : String) (sup : Option ClassId) : Class where
  name := name
  kind := .ordinary
  loader := none
  accessFlags := 33
  super := sup
  interfaces := #[]
  cf := none
  fields := #[]
  methods := #[]
  instanceTypes := #[]
  staticTypes := #[]
  resolved := #[]
  callSites := []
  init := .initialized
  statics := none
  mirror := none

def pool0 : Array CpInfo := pool [(5, u "<init>"), (0, u "()V"), (1, .class_ 10), (1, u "java/lang/Object"), (85, u "clone"), (0, u "()Ljava/lang/Object;")] 26

def k0c0 : Code := { maxStack := 0, maxLocals := 1, code := object_method_1_code, exceptionTable := #[], attributes := #[] }
def k0m0 : Method := { name := "<init>", desc := "()V", sig := { parameters := [], returnType := none }, accessFlags := 1, code := some k0c0 }
def k0m1 : Method := { name := "clone", desc := "()Ljava/lang/Object;", sig := { parameters := [], returnType := some (.object "java/lang/Object") }, accessFlags := 260, code := none }
/-- java/lang/Object -/
def k0 : Class := { plain "java/lang/Object" none with
  accessFlags := 33
  interfaces := #[]
  cf := some (fileOf pool0 8 #[] #[{ accessFlags := 1, nameIndex := 5, descriptorIndex := 6, attributes := #[] }, { accessFlags := 260, nameIndex := 96, descriptorIndex := 97, attributes := #[] }] 33 0 #[] #[])
  fields := #[]
  methods := #[k0m0, k0m1]
  instanceTypes := #[]
  staticTypes := #[]
  resolved := Array.replicate 124 none
  statics := none }

def pool1 : Array CpInfo := pool [(2, .class_ 4), (1, u "java/lang/Object"), (0, u "<init>"), (0, u "()V"), (0, .methodref 8 9), (0, .class_ 10), (0, .nameAndType 11 12), (0, u "com/example/tasklane/tasklane/engine/InstanceStateFromIdPinLaw"), (0, u "b"), (0, u "(JI)C"), (0, .integer 2147483647), (0, .methodref 8 15), (0, .nameAndType 16 17), (0, u "prefix"), (0, u "([CI)Ljava/lang/String;"), (0, .string 19), (0, u "active"), (0, .string 21), (0, u "completed"), (0, .methodref 23 24), (0, .class_ 25), (0, .nameAndType 26 27), (0, u "java/lang/String"), (0, u "length"), (0, u "()I"), (0, .methodref 8 29), (0, .nameAndType 30 31), (0, u "at"), (0, u "(Ljava/lang/String;I)C"), (0, .methodref 23 33), (0, .nameAndType 34 35), (0, u "equals"), (0, u "(Ljava/lang/Object;)Z"), (0, .fieldref 37 38), (0, .class_ 39), (0, .nameAndType 40 41), (0, u "com/example/tasklane/tasklane/engine/InstanceState"), (0, u "ACTIVE"), (0, u "Lcom/example/tasklane/tasklane/engine/InstanceState;"), (0, .fieldref 37 43), (0, .nameAndType 44 41), (0, u "COMPLETED"), (0, .methodref 37 46), (0, .nameAndType 47 48), (0, u "fromId"), (0, u "(Ljava/lang/String;)Ljava/util/Optional;"), (0, .methodref 50 51), (0, .class_ 52), (0, .nameAndType 53 54), (0, u "java/util/Optional"), (0, u "isPresent"), (0, u "()Z"), (0, .methodref 50 56), (0, .nameAndType 57 58), (0, u "get"), (0, u "()Ljava/lang/Object;"), (0, .long 255), (1, .methodref 23 62), (0, .nameAndType 63 64), (0, u "charAt"), (0, u "(I)C"), (0, .methodref 23 66), (0, .nameAndType 5 67), (0, u "([C)V"), (2, u "law"), (0, u "(IIJJII)Z")] 5

def k1m0 : Method := { name := "<init>", desc := "()V", sig := { parameters := [], returnType := none }, accessFlags := 1, code := none }
def k1c1 : Code := { maxStack := 6, maxLocals := 17, code := code, exceptionTable := #[], attributes := #[] }
def k1m1 : Method := { name := "law", desc := "(IIJJII)Z", sig := { parameters := [.int, .int, .long, .long, .int, .int], returnType := some .boolean }, accessFlags := 9, code := some k1c1 }
def k1c2 : Code := { maxStack := 4, maxLocals := 3, code := method_3_code, exceptionTable := #[], attributes := #[] }
def k1m2 : Method := { name := "b", desc := "(JI)C", sig := { parameters := [.long, .int], returnType := some .char }, accessFlags := 10, code := some k1c2 }
def k1c3 : Code := { maxStack := 2, maxLocals := 2, code := method_4_code, exceptionTable := #[], attributes := #[] }
def k1m3 : Method := { name := "at", desc := "(Ljava/lang/String;I)C", sig := { parameters := [(.object "java/lang/String"), .int], returnType := some .char }, accessFlags := 10, code := some k1c3 }
def k1c4 : Code := { maxStack := 7, maxLocals := 2, code := method_5_code, exceptionTable := #[], attributes := #[] }
def k1m4 : Method := { name := "prefix", desc := "([CI)Ljava/lang/String;", sig := { parameters := [(.array .char), .int], returnType := some (.object "java/lang/String") }, accessFlags := 10, code := some k1c4 }
/-- com/example/tasklane/tasklane/engine/InstanceStateFromIdPinLaw -/
def k1 : Class := { plain "com/example/tasklane/tasklane/engine/InstanceStateFromIdPinLaw" (some 0) with
  accessFlags := 49
  interfaces := #[]
  cf := some (fileOf pool1 8 #[] #[{ accessFlags := 1, nameIndex := 5, descriptorIndex := 6, attributes := #[] }, { accessFlags := 9, nameIndex := 70, descriptorIndex := 71, attributes := #[] }, { accessFlags := 10, nameIndex := 11, descriptorIndex := 12, attributes := #[] }, { accessFlags := 10, nameIndex := 30, descriptorIndex := 31, attributes := #[] }, { accessFlags := 10, nameIndex := 16, descriptorIndex := 17, attributes := #[] }] 49 2 #[] #[])
  fields := #[]
  methods := #[k1m0, k1m1, k1m2, k1m3, k1m4]
  instanceTypes := #[]
  staticTypes := #[]
  resolved := Array.replicate 77 none
  statics := none }

def pool2 : Array CpInfo := pool [(1, .class_ 2), (0, u "java/io/Serializable"), (0, .class_ 4), (0, u "java/lang/Object")] 2

/-- java/io/Serializable -/
def k2 : Class := { plain "java/io/Serializable" (some 0) with
  accessFlags := 1537
  interfaces := #[]
  cf := some (fileOf pool2 1 #[] #[] 1537 3 #[] #[])
  fields := #[]
  methods := #[]
  instanceTypes := #[]
  staticTypes := #[]
  resolved := Array.replicate 7 none
  statics := none }

def pool3 : Array CpInfo := pool [(1, .class_ 2), (0, u "java/lang/Comparable"), (0, .class_ 4), (0, u "java/lang/Object")] 7

/-- java/lang/Comparable -/
def k3 : Class := { plain "java/lang/Comparable" (some 0) with
  accessFlags := 1537
  interfaces := #[]
  cf := some (fileOf pool3 1 #[] #[] 1537 3 #[] #[])
  fields := #[]
  methods := #[]
  instanceTypes := #[]
  staticTypes := #[]
  resolved := Array.replicate 12 none
  statics := none }

def pool4 : Array CpInfo := pool [(2, .class_ 4), (1, u "java/lang/CharSequence"), (42, .class_ 48), (0, u "java/lang/CharSequence$1CodePointIterator"), (10, .class_ 60), (0, u "java/lang/CharSequence$1CharIterator"), (5, .class_ 67), (0, u "java/lang/Object")] 63

/-- java/lang/CharSequence -/
def k4 : Class := { plain "java/lang/CharSequence" (some 0) with
  accessFlags := 1537
  interfaces := #[]
  cf := some (fileOf pool4 2 #[.nestMembers #[47, 59]] #[] 1537 66 #[] #[])
  fields := #[]
  methods := #[]
  instanceTypes := #[]
  staticTypes := #[]
  resolved := Array.replicate 131 none
  statics := none }

def pool5 : Array CpInfo := pool [(1, .class_ 2), (0, u "java/lang/constant/Constable"), (0, .class_ 4), (0, u "java/lang/Object")] 6

/-- java/lang/constant/Constable -/
def k5 : Class := { plain "java/lang/constant/Constable" (some 0) with
  accessFlags := 1537
  interfaces := #[]
  cf := some (fileOf pool5 1 #[] #[] 1537 3 #[] #[])
  fields := #[]
  methods := #[]
  instanceTypes := #[]
  staticTypes := #[]
  resolved := Array.replicate 11 none
  statics := none }

def pool6 : Array CpInfo := pool [(1, .class_ 2), (0, u "java/lang/constant/ConstantDesc"), (0, .class_ 4), (0, u "java/lang/Object")] 32

/-- java/lang/constant/ConstantDesc -/
def k6 : Class := { plain "java/lang/constant/ConstantDesc" (some 0) with
  accessFlags := 1537
  interfaces := #[]
  cf := some (fileOf pool6 1 #[] #[] 1537 3 #[] #[])
  fields := #[]
  methods := #[]
  instanceTypes := #[]
  staticTypes := #[]
  resolved := Array.replicate 37 none
  statics := none }

def pool7 : Array CpInfo := pool [(1, .methodref 2 3), (0, .class_ 4), (0, .nameAndType 5 6), (0, u "java/lang/Object"), (0, u "<init>"), (0, u "()V"), (0, .string 8), (0, u ""), (0, .fieldref 10 11), (0, .class_ 12), (0, .nameAndType 13 14), (0, u "java/lang/String"), (0, u "value"), (0, u "[B"), (0, .fieldref 10 16), (0, .nameAndType 17 18), (0, u "coder"), (0, u "B"), (2, u "hash"), (0, u "I"), (2, u "hashIsZero"), (0, u "Z"), (0, .methodref 10 28), (0, .nameAndType 5 29), (0, u "([CIILjava/lang/Void;)V"), (8, .fieldref 10 39), (0, .nameAndType 40 26), (0, u "COMPACT_STRINGS"), (1, .class_ 44), (1, u "java/lang/StringUTF16"), (0, u "compress"), (1, .methodref 42 48), (0, .nameAndType 49 50), (0, u "coderFromArrayLen"), (0, u "([BI)B"), (56, .class_ 109), (1, u "java/lang/StringLatin1"), (32, u "()Z"), (34, .methodref 42 178), (0, .nameAndType 45 179), (0, u "([CII)[B"), (154, u "()I"), (0, .methodref 10 336), (0, .nameAndType 17 337), (0, u "()B"), (25, u "([BI)C"), (27, u "(II)V"), (35, u "(I)C"), (64, .methodref 10 493), (0, .nameAndType 494 142), (0, u "isLatin1"), (0, .methodref 107 496), (0, .nameAndType 497 363), (0, u "charAt"), (3, u "checkIndex"), (5, u "length"), (33, .methodref 107 542), (0, .nameAndType 543 544), (0, u "equals"), (0, u "([B[B)Z"), (28, u "(Ljava/lang/Object;)Z"), (1, .class_ 576), (0, u "java/lang/CharSequence"), (22, u "CASE_INSENSITIVE_ORDER"), (0, u "Ljava/util/Comparator;"), (409, u "([C)V"), (42, .fieldref 1054 1055), (0, .class_ 1056), (0, .nameAndType 1057 1058), (0, u "jdk/internal/util/Preconditions"), (0, u "SIOOBE_FORMATTER"), (0, u "Ljava/util/function/BiFunction;"), (0, .methodref 1054 1060), (0, .nameAndType 501 1061), (0, u "(IILjava/util/function/BiFunction;)I"), (39, u "serialPersistentFields"), (0, u "[Ljava/io/ObjectStreamField;"), (0, .class_ 1104), (0, u "java/lang/String$CaseInsensitiveComparator"), (1, .class_ 1107), (0, u "java/io/Serializable"), (0, .class_ 1109), (0, u "java/lang/Comparable"), (0, .class_ 1111), (0, u "java/lang/constant/Constable"), (0, .class_ 1113), (0, u "java/lang/constant/ConstantDesc"), (2, u "serialVersionUID"), (0, u "J"), (3, u "REPL"), (0, u "C"), (2, u "LATIN1"), (1, u "UTF16")] 323

def k7m0 : Method := { name := "<init>", desc := "()V", sig := { parameters := [], returnType := none }, accessFlags := 1, code := none }
def k7c1 : Code := { maxStack := 5, maxLocals := 2, code := jdk_42_method_3_code, exceptionTable := #[], attributes := #[] }
def k7m1 : Method := { name := "<init>", desc := "([C)V", sig := { parameters := [(.array .char)], returnType := none }, accessFlags := 1, code := some k7c1 }
def k7c2 : Code := { maxStack := 2, maxLocals := 1, code := jdk_42_method_54_code, exceptionTable := #[], attributes := #[] }
def k7m2 : Method := { name := "length", desc := "()I", sig := { parameters := [], returnType := some .int }, accessFlags := 1, code := some k7c2 }
def k7c3 : Code := { maxStack := 2, maxLocals := 2, code := jdk_42_method_56_code, exceptionTable := #[], attributes := #[] }
def k7m3 : Method := { name := "charAt", desc := "(I)C", sig := { parameters := [.int], returnType := some .char }, accessFlags := 1, code := some k7c3 }
def k7c4 : Code := { maxStack := 2, maxLocals := 3, code := jdk_42_method_66_code, exceptionTable := #[], attributes := #[] }
def k7m4 : Method := { name := "equals", desc := "(Ljava/lang/Object;)Z", sig := { parameters := [(.object "java/lang/Object")], returnType := some .boolean }, accessFlags := 1, code := some k7c4 }
def k7c5 : Code := { maxStack := 4, maxLocals := 6, code := jdk_42_method_149_code, exceptionTable := #[], attributes := #[] }
def k7m5 : Method := { name := "<init>", desc := "([CIILjava/lang/Void;)V", sig := { parameters := [(.array .char), .int, .int, (.object "java/lang/Void")], returnType := none }, accessFlags := 2, code := some k7c5 }
def k7c6 : Code := { maxStack := 1, maxLocals := 1, code := jdk_42_method_152_code, exceptionTable := #[], attributes := #[] }
def k7m6 : Method := { name := "coder", desc := "()B", sig := { parameters := [], returnType := some .byte }, accessFlags := 0, code := some k7c6 }
def k7c7 : Code := { maxStack := 1, maxLocals := 1, code := jdk_42_method_154_code, exceptionTable := #[], attributes := #[] }
def k7m7 : Method := { name := "isLatin1", desc := "()Z", sig := { parameters := [], returnType := some .boolean }, accessFlags := 0, code := some k7c7 }
def k7c8 : Code := { maxStack := 3, maxLocals := 2, code := jdk_42_method_155_code, exceptionTable := #[], attributes := #[] }
def k7m8 : Method := { name := "checkIndex", desc := "(II)V", sig := { parameters := [.int, .int], returnType := none }, accessFlags := 8, code := some k7c8 }
/-- java/lang/String -/
def k7 : Class := { plain "java/lang/String" (some 0) with
  accessFlags := 49
  interfaces := #[2, 3, 4, 5, 6]
  cf := some (fileOf pool7 10 #[.nestMembers #[1103]] #[{ accessFlags := 1, nameIndex := 5, descriptorIndex := 6, attributes := #[] }, { accessFlags := 1, nameIndex := 5, descriptorIndex := 1010, attributes := #[] }, { accessFlags := 1, nameIndex := 507, descriptorIndex := 334, attributes := #[] }, { accessFlags := 1, nameIndex := 497, descriptorIndex := 427, attributes := #[] }, { accessFlags := 1, nameIndex := 543, descriptorIndex := 573, attributes := #[] }, { accessFlags := 2, nameIndex := 5, descriptorIndex := 29, attributes := #[] }, { accessFlags := 0, nameIndex := 17, descriptorIndex := 337, attributes := #[] }, { accessFlags := 0, nameIndex := 494, descriptorIndex := 142, attributes := #[] }, { accessFlags := 8, nameIndex := 501, descriptorIndex := 391, attributes := #[] }] 49 2 #[1106, 1108, 575, 1110, 1112] #[{ accessFlags := 18, nameIndex := 13, descriptorIndex := 14, attributes := #[] }, { accessFlags := 18, nameIndex := 17, descriptorIndex := 18, attributes := #[] }, { accessFlags := 2, nameIndex := 21, descriptorIndex := 22, attributes := #[] }, { accessFlags := 2, nameIndex := 25, descriptorIndex := 26, attributes := #[] }, { accessFlags := 26, nameIndex := 1116, descriptorIndex := 1117, attributes := #[] }, { accessFlags := 24, nameIndex := 40, descriptorIndex := 26, attributes := #[] }, { accessFlags := 26, nameIndex := 1101, descriptorIndex := 1102, attributes := #[] }, { accessFlags := 26, nameIndex := 1121, descriptorIndex := 1122, attributes := #[] }, { accessFlags := 25, nameIndex := 599, descriptorIndex := 600, attributes := #[] }, { accessFlags := 24, nameIndex := 1125, descriptorIndex := 18, attributes := #[] }, { accessFlags := 24, nameIndex := 1127, descriptorIndex := 18, attributes := #[] }])
  fields := #[{ name := "value", type := (.array .byte), accessFlags := 18, slot := 0, constantValue := 0 }, { name := "coder", type := .byte, accessFlags := 18, slot := 1, constantValue := 0 }, { name := "hash", type := .int, accessFlags := 2, slot := 2, constantValue := 0 }, { name := "hashIsZero", type := .boolean, accessFlags := 2, slot := 3, constantValue := 0 }, { name := "serialVersionUID", type := .long, accessFlags := 26, slot := 0, constantValue := 0 }, { name := "COMPACT_STRINGS", type := .boolean, accessFlags := 24, slot := 1, constantValue := 0 }, { name := "serialPersistentFields", type := (.array (.object "java/io/ObjectStreamField")), accessFlags := 26, slot := 2, constantValue := 0 }, { name := "REPL", type := .char, accessFlags := 26, slot := 3, constantValue := 0 }, { name := "CASE_INSENSITIVE_ORDER", type := (.object "java/util/Comparator"), accessFlags := 25, slot := 4, constantValue := 0 }, { name := "LATIN1", type := .byte, accessFlags := 24, slot := 5, constantValue := 0 }, { name := "UTF16", type := .byte, accessFlags := 24, slot := 6, constantValue := 0 }]
  methods := #[k7m0, k7m1, k7m2, k7m3, k7m4, k7m5, k7m6, k7m7, k7m8]
  instanceTypes := #[(.array .byte), .byte, .int, .boolean]
  staticTypes := #[.long, .boolean, (.array (.object "java/io/ObjectStreamField")), .char, (.object "java/util/Comparator"), .byte, .byte]
  resolved := Array.replicate 1451 none
  statics := some 0 }

def pool8 : Array CpInfo := pool [(6, .class_ 8), (1, u "java/lang/Object"), (0, u "<init>"), (0, u "()V"), (1, .class_ 14), (1, u "java/lang/StringUTF16"), (31, u "$assertionsDisabled"), (0, u "Z"), (13, u "HI_BYTE_SHIFT"), (0, u "I"), (2, u "LO_BYTE_SHIFT"), (49, .methodref 12 116), (0, .nameAndType 117 118), (0, u "compress"), (0, u "([CI[BII)I"), (3, u "([CII)[B"), (138, u "coderFromArrayLen"), (0, u "([BI)B"), (106, .class_ 371), (1, u "java/lang/StringUTF16$LinesSpliterator"), (58, u "MAX_LENGTH"), (196, .class_ 628), (0, u "java/lang/StringUTF16$CodePointsSpliterator"), (0, .class_ 630), (0, u "java/lang/StringUTF16$CharsSpliterator")] 4

def k8m0 : Method := { name := "<init>", desc := "()V", sig := { parameters := [], returnType := none }, accessFlags := 0, code := none }
def k8c1 : Code := { maxStack := 2, maxLocals := 2, code := jdk_52_method_15_code, exceptionTable := #[], attributes := #[] }
def k8m1 : Method := { name := "coderFromArrayLen", desc := "([BI)B", sig := { parameters := [(.array .byte), .int], returnType := some .byte }, accessFlags := 8, code := some k8c1 }
def k8c2 : Code := { maxStack := 5, maxLocals := 6, code := jdk_52_method_16_code, exceptionTable := #[], attributes := #[] }
def k8m2 : Method := { name := "compress", desc := "([CII)[B", sig := { parameters := [(.array .char), .int, .int], returnType := some (.array .byte) }, accessFlags := 9, code := some k8c2 }
def k8c3 : Code := { maxStack := 3, maxLocals := 7, code := jdk_52_method_21_code, exceptionTable := #[], attributes := #[] }
def k8m3 : Method := { name := "compress", desc := "([CI[BII)I", sig := { parameters := [(.array .char), .int, (.array .byte), .int, .int], returnType := some .int }, accessFlags := 9, code := some k8c3 }
/-- java/lang/StringUTF16 -/
def k8 : Class := { plain "java/lang/StringUTF16" (some 0) with
  accessFlags := 48
  interfaces := #[]
  cf := some (fileOf pool8 12 #[.nestMembers #[627, 629, 369]] #[{ accessFlags := 0, nameIndex := 9, descriptorIndex := 10, attributes := #[] }, { accessFlags := 8, nameIndex := 261, descriptorIndex := 262, attributes := #[] }, { accessFlags := 9, nameIndex := 117, descriptorIndex := 122, attributes := #[] }, { accessFlags := 9, nameIndex := 117, descriptorIndex := 118, attributes := #[] }] 48 6 #[] #[{ accessFlags := 26, nameIndex := 61, descriptorIndex := 62, attributes := #[] }, { accessFlags := 26, nameIndex := 65, descriptorIndex := 62, attributes := #[] }, { accessFlags := 24, nameIndex := 430, descriptorIndex := 62, attributes := #[] }, { accessFlags := 4120, nameIndex := 46, descriptorIndex := 47, attributes := #[] }])
  fields := #[{ name := "HI_BYTE_SHIFT", type := .int, accessFlags := 26, slot := 0, constantValue := 0 }, { name := "LO_BYTE_SHIFT", type := .int, accessFlags := 26, slot := 1, constantValue := 0 }, { name := "MAX_LENGTH", type := .int, accessFlags := 24, slot := 2, constantValue := 0 }, { name := "$assertionsDisabled", type := .boolean, accessFlags := 4120, slot := 3, constantValue := 0 }]
  methods := #[k8m0, k8m1, k8m2, k8m3]
  instanceTypes := #[]
  staticTypes := #[.int, .int, .int, .boolean]
  resolved := Array.replicate 635 none
  statics := none }

def pool9 : Array CpInfo := pool [(1, .class_ 2), (0, u "java/lang/String"), (1, .class_ 6), (1, u "java/lang/Object"), (0, u "<init>"), (0, u "()V"), (0, .methodref 1 10), (0, .nameAndType 11 12), (0, u "checkIndex"), (0, u "(II)V"), (1, .class_ 16), (1, u "java/lang/StringLatin1"), (36, u "([BI)C"), (67, u "$assertionsDisabled"), (0, u "Z"), (98, .class_ 223), (1, u "java/lang/StringLatin1$LinesSpliterator"), (28, u "charAt"), (28, u "equals"), (0, u "([B[B)Z"), (107, .class_ 391), (0, u "java/lang/StringLatin1$CharsSpliterator")] 3

def k9m0 : Method := { name := "<init>", desc := "()V", sig := { parameters := [], returnType := none }, accessFlags := 0, code := none }
def k9c1 : Code := { maxStack := 2, maxLocals := 2, code := jdk_43_method_2_code, exceptionTable := #[], attributes := #[] }
def k9m1 : Method := { name := "charAt", desc := "([BI)C", sig := { parameters := [(.array .byte), .int], returnType := some .char }, accessFlags := 9, code := some k9c1 }
def k9c2 : Code := { maxStack := 3, maxLocals := 3, code := jdk_43_method_13_code, exceptionTable := #[], attributes := #[] }
def k9m2 : Method := { name := "equals", desc := "([B[B)Z", sig := { parameters := [(.array .byte), (.array .byte)], returnType := some .boolean }, accessFlags := 9, code := some k9c2 }
/-- java/lang/StringLatin1 -/
def k9 : Class := { plain "java/lang/StringLatin1" (some 0) with
  accessFlags := 48
  interfaces := #[]
  cf := some (fileOf pool9 14 #[.nestMembers #[390, 221]] #[{ accessFlags := 0, nameIndex := 7, descriptorIndex := 8, attributes := #[] }, { accessFlags := 9, nameIndex := 252, descriptorIndex := 53, attributes := #[] }, { accessFlags := 9, nameIndex := 281, descriptorIndex := 282, attributes := #[] }] 48 4 #[] #[{ accessFlags := 4120, nameIndex := 121, descriptorIndex := 122, attributes := #[] }])
  fields := #[{ name := "$assertionsDisabled", type := .boolean, accessFlags := 4120, slot := 0, constantValue := 0 }]
  methods := #[k9m0, k9m1, k9m2]
  instanceTypes := #[]
  staticTypes := #[.boolean]
  resolved := Array.replicate 395 none
  statics := none }

def pool10 : Array CpInfo := pool [(2, .class_ 4), (1, u "java/lang/Enum"), (0, u "name"), (0, u "Ljava/lang/String;"), (2, u "ordinal"), (0, u "I"), (1, .class_ 14), (1, u "java/lang/Object"), (4, u "hash"), (86, .class_ 108), (1, u "java/lang/Enum$EnumDesc"), (2, .class_ 112), (0, u "java/lang/constant/Constable"), (0, .class_ 114), (0, u "java/lang/Comparable"), (0, .class_ 116), (0, u "java/io/Serializable")] 87

/-- java/lang/Enum -/
def k10 : Class := { plain "java/lang/Enum" (some 0) with
  accessFlags := 1057
  interfaces := #[5, 3, 2]
  cf := some (fileOf pool10 2 #[.nestMembers #[106]] #[] 1057 12 #[111, 113, 115] #[{ accessFlags := 18, nameIndex := 5, descriptorIndex := 6, attributes := #[] }, { accessFlags := 18, nameIndex := 9, descriptorIndex := 10, attributes := #[] }, { accessFlags := 2, nameIndex := 19, descriptorIndex := 10, attributes := #[] }])
  fields := #[{ name := "name", type := (.object "java/lang/String"), accessFlags := 18, slot := 0, constantValue := 0 }, { name := "ordinal", type := .int, accessFlags := 18, slot := 1, constantValue := 0 }, { name := "hash", type := .int, accessFlags := 2, slot := 2, constantValue := 0 }]
  methods := #[]
  instanceTypes := #[(.object "java/lang/String"), .int, .int]
  staticTypes := #[]
  resolved := Array.replicate 204 none
  statics := none }

def pool11 : Array CpInfo := pool [(1, .class_ 2), (0, u "com/example/tasklane/tasklane/engine/InstanceState"), (2, u "ACTIVE"), (0, u "Lcom/example/tasklane/tasklane/engine/InstanceState;"), (2, u "COMPLETED"), (0, .fieldref 1 11), (0, .nameAndType 12 13), (0, u "$VALUES"), (0, u "[Lcom/example/tasklane/tasklane/engine/InstanceState;"), (0, .methodref 15 16), (0, .class_ 13), (0, .nameAndType 17 18), (0, u "clone"), (0, u "()Ljava/lang/Object;"), (1, .class_ 22), (1, u "java/lang/Enum"), (6, .fieldref 1 30), (0, .nameAndType 31 32), (0, u "id"), (0, u "Ljava/lang/String;"), (0, .methodref 1 34), (0, .nameAndType 35 36), (0, u "values"), (0, u "()[Lcom/example/tasklane/tasklane/engine/InstanceState;"), (0, .methodref 38 39), (0, .class_ 40), (0, .nameAndType 41 42), (0, u "java/lang/String"), (0, u "equals"), (0, u "(Ljava/lang/Object;)Z"), (0, .methodref 44 45), (0, .class_ 46), (0, .nameAndType 47 48), (0, u "java/util/Optional"), (0, u "of"), (0, u "(Ljava/lang/Object;)Ljava/util/Optional;"), (0, .methodref 44 50), (0, .nameAndType 51 52), (0, u "empty"), (0, u "()Ljava/util/Optional;"), (19, u "fromId"), (0, u "(Ljava/lang/String;)Ljava/util/Optional;")] 7

def k11c0 : Code := { maxStack := 1, maxLocals := 0, code := prog_5_method_1_code, exceptionTable := #[], attributes := #[] }
def k11m0 : Method := { name := "values", desc := "()[Lcom/example/tasklane/tasklane/engine/InstanceState;", sig := { parameters := [], returnType := some (.array (.object "com/example/tasklane/tasklane/engine/InstanceState")) }, accessFlags := 9, code := some k11c0 }
def k11c1 : Code := { maxStack := 2, maxLocals := 5, code := prog_5_method_5_code, exceptionTable := #[], attributes := #[] }
def k11m1 : Method := { name := "fromId", desc := "(Ljava/lang/String;)Ljava/util/Optional;", sig := { parameters := [(.object "java/lang/String")], returnType := some (.object "java/util/Optional") }, accessFlags := 9, code := some k11c1 }
/-- com/example/tasklane/tasklane/engine/InstanceState -/
def k11 : Class := { plain "com/example/tasklane/tasklane/engine/InstanceState" (some 10) with
  accessFlags := 16433
  interfaces := #[]
  cf := some (fileOf pool11 1 #[] #[{ accessFlags := 9, nameIndex := 35, descriptorIndex := 36, attributes := #[] }, { accessFlags := 9, nameIndex := 72, descriptorIndex := 73, attributes := #[] }] 16433 20 #[] #[{ accessFlags := 16409, nameIndex := 5, descriptorIndex := 6, attributes := #[] }, { accessFlags := 16409, nameIndex := 9, descriptorIndex := 6, attributes := #[] }, { accessFlags := 18, nameIndex := 31, descriptorIndex := 32, attributes := #[] }, { accessFlags := 4122, nameIndex := 12, descriptorIndex := 13, attributes := #[] }])
  fields := #[{ name := "ACTIVE", type := (.object "com/example/tasklane/tasklane/engine/InstanceState"), accessFlags := 16409, slot := 0, constantValue := 0 }, { name := "COMPLETED", type := (.object "com/example/tasklane/tasklane/engine/InstanceState"), accessFlags := 16409, slot := 1, constantValue := 0 }, { name := "id", type := (.object "java/lang/String"), accessFlags := 18, slot := 3, constantValue := 0 }, { name := "$VALUES", type := (.array (.object "com/example/tasklane/tasklane/engine/InstanceState")), accessFlags := 4122, slot := 2, constantValue := 0 }]
  methods := #[k11m0, k11m1]
  instanceTypes := #[(.object "java/lang/String"), .int, .int, (.object "java/lang/String")]
  staticTypes := #[(.object "com/example/tasklane/tasklane/engine/InstanceState"), (.object "com/example/tasklane/tasklane/engine/InstanceState"), (.array (.object "com/example/tasklane/tasklane/engine/InstanceState"))]
  resolved := Array.replicate 81 none
  statics := some 1 }

def pool12 : Array CpInfo := pool [(1, .class_ 2), (0, u "java/lang/Cloneable"), (0, .class_ 4), (0, u "java/lang/Object")] 2

/-- java/lang/Cloneable -/
def k12 : Class := { plain "java/lang/Cloneable" (some 0) with
  accessFlags := 1537
  interfaces := #[]
  cf := some (fileOf pool12 1 #[] #[] 1537 3 #[] #[])
  fields := #[]
  methods := #[]
  instanceTypes := #[]
  staticTypes := #[]
  resolved := Array.replicate 7 none
  statics := none }

def pool13 : Array CpInfo := pool [(1, .fieldref 2 3), (0, .class_ 4), (0, .nameAndType 5 6), (0, u "java/util/Optional"), (0, u "EMPTY"), (0, u "Ljava/util/Optional;"), (0, .methodref 8 9), (0, .class_ 10), (0, .nameAndType 11 12), (0, u "java/lang/Object"), (0, u "<init>"), (0, u "()V"), (0, .fieldref 2 14), (0, .nameAndType 15 16), (0, u "value"), (0, u "Ljava/lang/Object;"), (0, .methodref 18 19), (0, .class_ 20), (0, .nameAndType 21 22), (0, u "java/util/Objects"), (0, u "requireNonNull"), (0, u "(Ljava/lang/Object;)Ljava/lang/Object;"), (0, .methodref 2 24), (0, .nameAndType 11 25), (0, u "(Ljava/lang/Object;)V"), (20, u "()Z"), (8, u "empty"), (0, u "()Ljava/util/Optional;"), (8, u "(Ljava/lang/Object;)Ljava/util/Optional;"), (2, u "isPresent"), (4, u "get"), (0, u "()Ljava/lang/Object;"), (7, u "of")] 104

def k13c0 : Code := { maxStack := 1, maxLocals := 1, code := jdk_32_method_1_code, exceptionTable := #[], attributes := #[] }
def k13m0 : Method := { name := "empty", desc := "()Ljava/util/Optional;", sig := { parameters := [], returnType := some (.object "java/util/Optional") }, accessFlags := 9, code := some k13c0 }
def k13c1 : Code := { maxStack := 2, maxLocals := 2, code := jdk_32_method_2_code, exceptionTable := #[], attributes := #[] }
def k13m1 : Method := { name := "<init>", desc := "(Ljava/lang/Object;)V", sig := { parameters := [(.object "java/lang/Object")], returnType := none }, accessFlags := 2, code := some k13c1 }
def k13c2 : Code := { maxStack := 3, maxLocals := 1, code := jdk_32_method_3_code, exceptionTable := #[], attributes := #[] }
def k13m2 : Method := { name := "of", desc := "(Ljava/lang/Object;)Ljava/util/Optional;", sig := { parameters := [(.object "java/lang/Object")], returnType := some (.object "java/util/Optional") }, accessFlags := 9, code := some k13c2 }
def k13c3 : Code := { maxStack := 3, maxLocals := 1, code := jdk_32_method_5_code, exceptionTable := #[], attributes := #[] }
def k13m3 : Method := { name := "get", desc := "()Ljava/lang/Object;", sig := { parameters := [], returnType := some (.object "java/lang/Object") }, accessFlags := 1, code := some k13c3 }
def k13c4 : Code := { maxStack := 1, maxLocals := 1, code := jdk_32_method_6_code, exceptionTable := #[], attributes := #[] }
def k13m4 : Method := { name := "isPresent", desc := "()Z", sig := { parameters := [], returnType := some .boolean }, accessFlags := 1, code := some k13c4 }
/-- java/util/Optional -/
def k13 : Class := { plain "java/util/Optional" (some 0) with
  accessFlags := 49
  interfaces := #[]
  cf := some (fileOf pool13 2 #[] #[{ accessFlags := 9, nameIndex := 55, descriptorIndex := 56, attributes := #[] }, { accessFlags := 2, nameIndex := 11, descriptorIndex := 25, attributes := #[] }, { accessFlags := 9, nameIndex := 82, descriptorIndex := 65, attributes := #[] }, { accessFlags := 1, nameIndex := 73, descriptorIndex := 74, attributes := #[] }, { accessFlags := 1, nameIndex := 68, descriptorIndex := 46, attributes := #[] }] 49 8 #[] #[{ accessFlags := 26, nameIndex := 5, descriptorIndex := 6, attributes := #[] }, { accessFlags := 18, nameIndex := 15, descriptorIndex := 16, attributes := #[] }])
  fields := #[{ name := "EMPTY", type := (.object "java/util/Optional"), accessFlags := 26, slot := 0, constantValue := 0 }, { name := "value", type := (.object "java/lang/Object"), accessFlags := 18, slot := 0, constantValue := 0 }]
  methods := #[k13m0, k13m1, k13m2, k13m3, k13m4]
  instanceTypes := #[(.object "java/lang/Object")]
  staticTypes := #[(.object "java/util/Optional")]
  resolved := Array.replicate 187 none
  statics := some 2 }

def pool14 : Array CpInfo := pool [(2, .class_ 4), (1, u "java/lang/Object"), (0, u "<init>"), (0, u "()V"), (17, .class_ 26), (1, u "jdk/internal/util/Preconditions"), (6, u "checkIndex"), (21, .class_ 56), (0, u "jdk/internal/util/Preconditions$4"), (57, .class_ 115), (0, u "jdk/internal/util/Preconditions$1"), (7, u "SIOOBE_FORMATTER"), (0, u "Ljava/util/function/BiFunction;"), (0, .class_ 126), (0, u "jdk/internal/util/Preconditions$2"), (3, u "AIOOBE_FORMATTER"), (0, .class_ 132), (0, u "jdk/internal/util/Preconditions$3"), (3, u "IOOBE_FORMATTER"), (41, u "(IILjava/util/function/BiFunction;)I")] 15

def k14m0 : Method := { name := "<init>", desc := "()V", sig := { parameters := [], returnType := none }, accessFlags := 1, code := none }
def k14c1 : Code := { maxStack := 3, maxLocals := 3, code := jdk_41_method_11_code, exceptionTable := #[], attributes := #[] }
def k14m1 : Method := { name := "checkIndex", desc := "(IILjava/util/function/BiFunction;)I", sig := { parameters := [.int, .int, (.object "java/util/function/BiFunction")], returnType := some .int }, accessFlags := 9, code := some k14c1 }
/-- jdk/internal/util/Preconditions -/
def k14 : Class := { plain "jdk/internal/util/Preconditions" (some 0) with
  accessFlags := 33
  interfaces := #[]
  cf := some (fileOf pool14 24 #[.nestMembers #[55, 131, 125, 114]] #[{ accessFlags := 1, nameIndex := 5, descriptorIndex := 6, attributes := #[] }, { accessFlags := 9, nameIndex := 33, descriptorIndex := 178, attributes := #[] }] 33 2 #[] #[{ accessFlags := 25, nameIndex := 123, descriptorIndex := 124, attributes := #[] }, { accessFlags := 25, nameIndex := 130, descriptorIndex := 124, attributes := #[] }, { accessFlags := 25, nameIndex := 136, descriptorIndex := 124, attributes := #[] }])
  fields := #[{ name := "SIOOBE_FORMATTER", type := (.object "java/util/function/BiFunction"), accessFlags := 25, slot := 0, constantValue := 0 }, { name := "AIOOBE_FORMATTER", type := (.object "java/util/function/BiFunction"), accessFlags := 25, slot := 1, constantValue := 0 }, { name := "IOOBE_FORMATTER", type := (.object "java/util/function/BiFunction"), accessFlags := 25, slot := 2, constantValue := 0 }]
  methods := #[k14m0, k14m1]
  instanceTypes := #[]
  staticTypes := #[(.object "java/util/function/BiFunction"), (.object "java/util/function/BiFunction"), (.object "java/util/function/BiFunction")]
  resolved := Array.replicate 194 none
  statics := some 3 }

def pool15 : Array CpInfo := pool [(2, .class_ 4), (1, u "java/lang/Object"), (0, u "<init>"), (0, u "()V"), (35, .class_ 44), (1, u "java/util/Objects"), (0, u "requireNonNull"), (0, u "(Ljava/lang/Object;)Ljava/lang/Object;")] 137

def k15m0 : Method := { name := "<init>", desc := "()V", sig := { parameters := [], returnType := none }, accessFlags := 2, code := none }
def k15c1 : Code := { maxStack := 2, maxLocals := 1, code := jdk_31_method_10_code, exceptionTable := #[], attributes := #[] }
def k15m1 : Method := { name := "requireNonNull", desc := "(Ljava/lang/Object;)Ljava/lang/Object;", sig := { parameters := [(.object "java/lang/Object")], returnType := some (.object "java/lang/Object") }, accessFlags := 9, code := some k15c1 }
/-- java/util/Objects -/
def k15 : Class := { plain "java/util/Objects" (some 0) with
  accessFlags := 49
  interfaces := #[]
  cf := some (fileOf pool15 42 #[] #[{ accessFlags := 2, nameIndex := 5, descriptorIndex := 6, attributes := #[] }, { accessFlags := 9, nameIndex := 45, descriptorIndex := 46, attributes := #[] }] 49 2 #[] #[])
  fields := #[]
  methods := #[k15m0, k15m1]
  instanceTypes := #[]
  staticTypes := #[]
  resolved := Array.replicate 184 none
  statics := none }

def pool16 : Array CpInfo := pool [(9, u "<init>"), (6, .class_ 18), (1, u "java/lang/Object"), (0, u "()V"), (1, .class_ 23), (1, u "jdk/internal/util/ArraysSupport"), (0, u "LOG2_ARRAY_LONG_INDEX_SCALE"), (0, u "I"), (2, u "U"), (0, u "Ljdk/internal/misc/Unsafe;"), (8, u "BIG_ENDIAN"), (0, u "Z"), (8, u "LOG2_BYTE_BIT_SIZE"), (4, u "LOG2_ARRAY_INT_INDEX_SCALE"), (54, u "JLA"), (0, u "Ljdk/internal/access/JavaLangAccess;"), (11, u "LOG2_ARRAY_BOOLEAN_INDEX_SCALE"), (9, u "LOG2_ARRAY_BYTE_INDEX_SCALE"), (5, u "LOG2_ARRAY_CHAR_INDEX_SCALE"), (5, u "LOG2_ARRAY_SHORT_INDEX_SCALE"), (18, u "LOG2_ARRAY_FLOAT_INDEX_SCALE"), (24, u "LOG2_ARRAY_DOUBLE_INDEX_SCALE"), (89, u "T_BOOLEAN"), (2, u "T_CHAR"), (1, u "T_FLOAT"), (1, u "T_DOUBLE"), (1, u "T_BYTE"), (1, u "T_SHORT"), (1, u "T_INT"), (1, u "T_LONG"), (1, u "SOFT_MAX_ARRAY_LENGTH")] 83

def k16m0 : Method := { name := "<init>", desc := "()V", sig := { parameters := [], returnType := none }, accessFlags := 2, code := none }
/-- jdk/internal/util/ArraysSupport -/
def k16 : Class := { plain "jdk/internal/util/ArraysSupport" (some 0) with
  accessFlags := 33
  interfaces := #[]
  cf := some (fileOf pool16 21 #[] #[{ accessFlags := 2, nameIndex := 9, descriptorIndex := 19, attributes := #[] }] 33 16 #[] #[{ accessFlags := 24, nameIndex := 28, descriptorIndex := 29, attributes := #[] }, { accessFlags := 26, nameIndex := 38, descriptorIndex := 39, attributes := #[] }, { accessFlags := 25, nameIndex := 121, descriptorIndex := 25, attributes := #[] }, { accessFlags := 25, nameIndex := 131, descriptorIndex := 25, attributes := #[] }, { accessFlags := 25, nameIndex := 137, descriptorIndex := 25, attributes := #[] }, { accessFlags := 25, nameIndex := 143, descriptorIndex := 25, attributes := #[] }, { accessFlags := 25, nameIndex := 53, descriptorIndex := 25, attributes := #[] }, { accessFlags := 25, nameIndex := 24, descriptorIndex := 25, attributes := #[] }, { accessFlags := 25, nameIndex := 162, descriptorIndex := 25, attributes := #[] }, { accessFlags := 25, nameIndex := 187, descriptorIndex := 25, attributes := #[] }, { accessFlags := 26, nameIndex := 48, descriptorIndex := 25, attributes := #[] }, { accessFlags := 25, nameIndex := 277, descriptorIndex := 25, attributes := #[] }, { accessFlags := 25, nameIndex := 280, descriptorIndex := 25, attributes := #[] }, { accessFlags := 25, nameIndex := 282, descriptorIndex := 25, attributes := #[] }, { accessFlags := 25, nameIndex := 284, descriptorIndex := 25, attributes := #[] }, { accessFlags := 25, nameIndex := 286, descriptorIndex := 25, attributes := #[] }, { accessFlags := 25, nameIndex := 288, descriptorIndex := 25, attributes := #[] }, { accessFlags := 25, nameIndex := 290, descriptorIndex := 25, attributes := #[] }, { accessFlags := 25, nameIndex := 292, descriptorIndex := 25, attributes := #[] }, { accessFlags := 26, nameIndex := 108, descriptorIndex := 109, attributes := #[] }, { accessFlags := 25, nameIndex := 294, descriptorIndex := 25, attributes := #[] }])
  fields := #[{ name := "U", type := (.object "jdk/internal/misc/Unsafe"), accessFlags := 24, slot := 0, constantValue := 0 }, { name := "BIG_ENDIAN", type := .boolean, accessFlags := 26, slot := 1, constantValue := 0 }, { name := "LOG2_ARRAY_BOOLEAN_INDEX_SCALE", type := .int, accessFlags := 25, slot := 2, constantValue := 0 }, { name := "LOG2_ARRAY_BYTE_INDEX_SCALE", type := .int, accessFlags := 25, slot := 3, constantValue := 0 }, { name := "LOG2_ARRAY_CHAR_INDEX_SCALE", type := .int, accessFlags := 25, slot := 4, constantValue := 0 }, { name := "LOG2_ARRAY_SHORT_INDEX_SCALE", type := .int, accessFlags := 25, slot := 5, constantValue := 0 }, { name := "LOG2_ARRAY_INT_INDEX_SCALE", type := .int, accessFlags := 25, slot := 6, constantValue := 0 }, { name := "LOG2_ARRAY_LONG_INDEX_SCALE", type := .int, accessFlags := 25, slot := 7, constantValue := 0 }, { name := "LOG2_ARRAY_FLOAT_INDEX_SCALE", type := .int, accessFlags := 25, slot := 8, constantValue := 0 }, { name := "LOG2_ARRAY_DOUBLE_INDEX_SCALE", type := .int, accessFlags := 25, slot := 9, constantValue := 0 }, { name := "LOG2_BYTE_BIT_SIZE", type := .int, accessFlags := 26, slot := 10, constantValue := 0 }, { name := "T_BOOLEAN", type := .int, accessFlags := 25, slot := 11, constantValue := 0 }, { name := "T_CHAR", type := .int, accessFlags := 25, slot := 12, constantValue := 0 }, { name := "T_FLOAT", type := .int, accessFlags := 25, slot := 13, constantValue := 0 }, { name := "T_DOUBLE", type := .int, accessFlags := 25, slot := 14, constantValue := 0 }, { name := "T_BYTE", type := .int, accessFlags := 25, slot := 15, constantValue := 0 }, { name := "T_SHORT", type := .int, accessFlags := 25, slot := 16, constantValue := 0 }, { name := "T_INT", type := .int, accessFlags := 25, slot := 17, constantValue := 0 }, { name := "T_LONG", type := .int, accessFlags := 25, slot := 18, constantValue := 0 }, { name := "JLA", type := (.object "jdk/internal/access/JavaLangAccess"), accessFlags := 26, slot := 19, constantValue := 0 }, { name := "SOFT_MAX_ARRAY_LENGTH", type := .int, accessFlags := 25, slot := 20, constantValue := 0 }]
  methods := #[k16m0]
  instanceTypes := #[]
  staticTypes := #[(.object "jdk/internal/misc/Unsafe"), .boolean, .int, .int, .int, .int, .int, .int, .int, .int, .int, .int, .int, .int, .int, .int, .int, .int, .int, (.object "jdk/internal/access/JavaLangAccess"), .int]
  resolved := Array.replicate 378 none
  statics := none }

/-- the primitive byte -/
def k17 : Class := { plain "byte" none with kind := .primitive 'B', accessFlags := 0x411 }
/-- [B -/
def k18 : Class := { plain "[B" (some 0) with kind := .array 17 .byte, interfaces := #[12, 2], accessFlags := 1041 }

/-- the primitive char -/
def k19 : Class := { plain "char" none with kind := .primitive 'C', accessFlags := 0x411 }
/-- [C -/
def k20 : Class := { plain "[C" (some 0) with kind := .array 19 .char, interfaces := #[12, 2], accessFlags := 1041 }

/-- the primitive int -/
def k21 : Class := { plain "int" none with kind := .primitive 'I', accessFlags := 0x411 }
/-- [I -/
def k22 : Class := { plain "[I" (some 0) with kind := .array 21 .int, interfaces := #[12, 2], accessFlags := 1041 }

/-- [Lcom/example/tasklane/tasklane/engine/InstanceState; -/
def k23 : Class := { plain "[Lcom/example/tasklane/tasklane/engine/InstanceState;" (some 0) with kind := .array 11 (.object "com/example/tasklane/tasklane/engine/InstanceState"), interfaces := #[12, 2], accessFlags := 1041 }

def heap : Heap := #[{ cls := 7, slots := #[.long 0, .int 1, .null, .int 0, .null, .int 0, .int 0], vm := .statics 7 },
  { cls := 11, slots := #[.ref 5, .ref 6, .ref 4], vm := .statics 11 },
  { cls := 13, slots := #[.ref 11], vm := .statics 13 },
  { cls := 14, slots := #[.null, .null, .null], vm := .statics 14 },
  { cls := 23, slots := #[.ref 5, .ref 6], vm := .none },
  { cls := 11, slots := #[.null, .int 0, .int 0, .ref 7], vm := .none },
  { cls := 11, slots := #[.null, .int 1, .int 0, .ref 8], vm := .none },
  { cls := 7, slots := #[.ref 9, .int 0, .int 0, .int 0], vm := .none },
  { cls := 7, slots := #[.ref 10, .int 0, .int 0, .int 0], vm := .none },
  { cls := 18, slots := #[.int 97, .int 99, .int 116, .int 105, .int 118, .int 101], vm := .none },
  { cls := 18, slots := #[.int 99, .int 111, .int 109, .int 112, .int 108, .int 101, .int 116, .int 101, .int 100], vm := .none },
  { cls := 13, slots := #[.null], vm := .none }]
def classes : Array Class := #[k0, k1, k2, k3, k4, k5, k6, k7, k8, k9, k10, k11, k12, k13, k14, k15, k16, k17, k18, k19, k20, k21, k22, k23]
def interned : List (Array UInt16 × Addr) := []
def slotsUsed : Nat := 48
def theMethod : MethodId := ⟨1, 1⟩
def args0 : Array Value := #[.int 3, .int 0, .long 0, .long 0, .int 0, .int 0]
def aboutOver (below : List Frame) : State where
  vm := { classes := classes, interned := interned.toArray }
  heap := heap
  slotsUsed := slotsUsed
  threads := #[{ frames := .invoking theMethod args0 :: below }]
def below0 : List Frame := [.native { method := ⟨0, 0⟩, args := #[] }]
def about1 : State := aboutOver below0
def p0 : Program := .bare "" "" ""
def e0 : Env := launch0.env 0 0 0
theorem w_frames : about1.frames = Frame.invoking theMethod args0 :: below0 := rfl
set_option maxRecDepth 65536 in
theorem w_args : argsFit about1.vm theMethod args0 = true := by decide +kernel
set_option maxRecDepth 65536 in
theorem w_heap : heapFits about1 = true := by decide +kernel
set_option maxRecDepth 65536 in
theorem w_runnable : about1.curStatus? = some .runnable := by decide +kernel
set_option maxRecDepth 65536 in
theorem w_alone : about1.alone = true := by decide +kernel
set_option maxRecDepth 65536 in
theorem w_named : about1.methodNamed? x = some theMethod := by decide +kernel
set_option maxRecDepth 65536 in
theorem w_hears : about1.hears theMethod below0 = true := by decide +kernel
set_option maxRecDepth 65536 in
theorem w_ripe : about1.ripe theMethod args0 below0 = true := by decide +kernel
theorem w_running : about1.status = .running := rfl
set_option maxRecDepth 65536 in
theorem w_room : about1.hasRoom e0.platform room_1 = true :=
  launch0.hasRoom_least _ room_1 (by decide +kernel) (by decide +kernel) (by decide +kernel) (by decide +kernel) (by decide +kernel) (by decide +kernel)
theorem allAtoms_all (ts : List Jvm.Cond) (a : Array Jvm.Value) (st : Jvm.State) : (allAtoms ts).before a st = ts.all (fun c => c.before a st) := by
  induction ts with
  | nil => rfl
  | cons c t ih =>
    show (Jvm.Cond.and c (allAtoms t)).before a st = _
    rw [Jvm.Cond.before_and, ih, List.all_cons]
def words1 : List Jvm.Cond := Jvm.Cond.code x code maxLocals ret :: tables_1
/-- a 'code' word, met by the world's own term for the bytes: nothing is compared byte by byte -/
theorem code_word {y : MethodName} {bytes : ByteArray} {mx : Nat} {rt : Option FieldType} {a : Array Value} {s : State} {m : MethodId} {meth : Method} {c : Code} (h1 : s.methodNamed? y = some m) (h2 : s.vm.method? m = some meth) (h3 : meth.code = some c) (h4 : c.code = bytes)
    (h5 : (c.maxLocals == mx && c.exceptionTable.isEmpty && decide (c.maxStack ≤ mostOperands) && decide (meth.sig.returnType = rt) && !meth.locks && decide (parseMethodDescriptor y.desc = some meth.sig)) = true) : (Jvm.Cond.code y bytes mx rt).before a s = true := by
  simp only [Bool.and_eq_true, beq_iff_eq, Bool.not_eq_true', decide_eq_true_eq] at h5
  obtain ⟨⟨⟨⟨⟨g1, g2⟩, g3⟩, g4⟩, g5⟩, g6⟩ := h5
  simp [Cond.before, Cond.holds, Cond.value, h1, h2, h3, h4, g1, g2, g3, g4, g5, g6]
def isCode : Jvm.Cond → Bool
  | .code _ _ _ _ => true
  | _ => false
theorem all_split {L : List Jvm.Cond} {P : Jvm.Cond → Bool} (h1 : L.all (fun c => isCode c || P c) = true) (h2 : ∀ c ∈ L.filter isCode, P c = true) : L.all P = true := by
  refine List.all_eq_true.mpr fun c hc => ?_
  have h := List.all_eq_true.mp h1 c hc
  rcases Bool.eq_false_or_eq_true (isCode c) with hi | hi
  · exact h2 c (List.mem_filter.mpr ⟨hc, hi⟩)
  · simpa [hi] using h
set_option maxRecDepth 65536 in
theorem w_c0 : (Jvm.Cond.code x code maxLocals ret).before args0 about1 = true := code_word (m := ⟨1, 1⟩) (meth := k1m1) (c := k1c1) (by decide +kernel) rfl rfl rfl (by decide +kernel)
set_option maxRecDepth 65536 in
theorem w_c1 : (Jvm.Cond.code ({ cls := "com/example/tasklane/tasklane/engine/InstanceStateFromIdPinLaw", name := "b", desc := "(JI)C" } : Jvm.MethodName) method_3_code (3 : Nat) (Option.some Jvm.ClassFile.FieldType.char)).before args0 about1 = true := code_word (m := ⟨1, 2⟩) (meth := k1m2) (c := k1c2) (by decide +kernel) rfl rfl rfl (by decide +kernel)
set_option maxRecDepth 65536 in
theorem w_c2 : (Jvm.Cond.code ({ cls := "com/example/tasklane/tasklane/engine/InstanceStateFromIdPinLaw", name := "prefix", desc := "([CI)Ljava/lang/String;" } : Jvm.MethodName) method_5_code (2 : Nat) (Option.some (Jvm.ClassFile.FieldType.object "java/lang/String"))).before args0 about1 = true := code_word (m := ⟨1, 4⟩) (meth := k1m4) (c := k1c4) (by decide +kernel) rfl rfl rfl (by decide +kernel)
set_option maxRecDepth 65536 in
theorem w_c3 : (Jvm.Cond.code ({ cls := "java/lang/String", name := "<init>", desc := "([C)V" } : Jvm.MethodName) jdk_42_method_3_code (2 : Nat) (Option.none : Option Jvm.ClassFile.FieldType)).before args0 about1 = true := code_word (m := ⟨7, 1⟩) (meth := k7m1) (c := k7c1) (by decide +kernel) rfl rfl rfl (by decide +kernel)
set_option maxRecDepth 65536 in
theorem w_c4 : (Jvm.Cond.code ({ cls := "java/lang/String", name := "<init>", desc := "([CIILjava/lang/Void;)V" } : Jvm.MethodName) jdk_42_method_149_code (6 : Nat) (Option.none : Option Jvm.ClassFile.FieldType)).before args0 about1 = true := code_word (m := ⟨7, 5⟩) (meth := k7m5) (c := k7c5) (by decide +kernel) rfl rfl rfl (by decide +kernel)
set_option maxRecDepth 65536 in
theorem w_c5 : (Jvm.Cond.code ({ cls := "java/lang/Object", name := "<init>", desc := "()V" } : Jvm.MethodName) object_method_1_code (1 : Nat) (Option.none : Option Jvm.ClassFile.FieldType)).before args0 about1 = true := code_word (m := ⟨0, 0⟩) (meth := k0m0) (c := k0c0) (by decide +kernel) rfl rfl rfl (by decide +kernel)
set_option maxRecDepth 65536 in
theorem w_c6 : (Jvm.Cond.code ({ cls := "java/lang/StringUTF16", name := "compress", desc := "([CII)[B" } : Jvm.MethodName) jdk_52_method_16_code (6 : Nat) (Option.some (Jvm.ClassFile.FieldType.array Jvm.ClassFile.FieldType.byte))).before args0 about1 = true := code_word (m := ⟨8, 2⟩) (meth := k8m2) (c := k8c2) (by decide +kernel) rfl rfl rfl (by decide +kernel)
set_option maxRecDepth 65536 in
theorem w_c7 : (Jvm.Cond.code ({ cls := "java/lang/StringUTF16", name := "compress", desc := "([CI[BII)I" } : Jvm.MethodName) jdk_52_method_21_code (7 : Nat) (Option.some Jvm.ClassFile.FieldType.int)).before args0 about1 = true := code_word (m := ⟨8, 3⟩) (meth := k8m3) (c := k8c3) (by decide +kernel) rfl rfl rfl (by decide +kernel)
set_option maxRecDepth 65536 in
theorem w_c8 : (Jvm.Cond.code ({ cls := "java/lang/StringUTF16", name := "coderFromArrayLen", desc := "([BI)B" } : Jvm.MethodName) jdk_52_method_15_code (2 : Nat) (Option.some Jvm.ClassFile.FieldType.byte)).before args0 about1 = true := code_word (m := ⟨8, 1⟩) (meth := k8m1) (c := k8c1) (by decide +kernel) rfl rfl rfl (by decide +kernel)
set_option maxRecDepth 65536 in
theorem w_c9 : (Jvm.Cond.code ({ cls := "java/lang/String", name := "equals", desc := "(Ljava/lang/Object;)Z" } : Jvm.MethodName) jdk_42_method_66_code (3 : Nat) (Option.some Jvm.ClassFile.FieldType.boolean)).before args0 about1 = true := code_word (m := ⟨7, 4⟩) (meth := k7m4) (c := k7c4) (by decide +kernel) rfl rfl rfl (by decide +kernel)
set_option maxRecDepth 65536 in
theorem w_c10 : (Jvm.Cond.code ({ cls := "java/lang/StringLatin1", name := "equals", desc := "([B[B)Z" } : Jvm.MethodName) jdk_43_method_13_code (3 : Nat) (Option.some Jvm.ClassFile.FieldType.boolean)).before args0 about1 = true := code_word (m := ⟨9, 2⟩) (meth := k9m2) (c := k9c2) (by decide +kernel) rfl rfl rfl (by decide +kernel)
set_option maxRecDepth 65536 in
theorem w_c11 : (Jvm.Cond.code ({ cls := "com/example/tasklane/tasklane/engine/InstanceState", name := "fromId", desc := "(Ljava/lang/String;)Ljava/util/Optional;" } : Jvm.MethodName) prog_5_method_5_code (5 : Nat) (Option.some (Jvm.ClassFile.FieldType.object "java/util/Optional"))).before args0 about1 = true := code_word (m := ⟨11, 1⟩) (meth := k11m1) (c := k11c1) (by decide +kernel) rfl rfl rfl (by decide +kernel)
set_option maxRecDepth 65536 in
theorem w_c12 : (Jvm.Cond.code ({ cls := "com/example/tasklane/tasklane/engine/InstanceState", name := "values", desc := "()[Lcom/example/tasklane/tasklane/engine/InstanceState;" } : Jvm.MethodName) prog_5_method_1_code (0 : Nat) (Option.some (Jvm.ClassFile.FieldType.array (Jvm.ClassFile.FieldType.object "com/example/tasklane/tasklane/engine/InstanceState")))).before args0 about1 = true := code_word (m := ⟨11, 0⟩) (meth := k11m0) (c := k11c0) (by decide +kernel) rfl rfl rfl (by decide +kernel)
set_option maxRecDepth 65536 in
theorem w_c13 : (Jvm.Cond.code ({ cls := "java/util/Optional", name := "empty", desc := "()Ljava/util/Optional;" } : Jvm.MethodName) jdk_32_method_1_code (1 : Nat) (Option.some (Jvm.ClassFile.FieldType.object "java/util/Optional"))).before args0 about1 = true := code_word (m := ⟨13, 0⟩) (meth := k13m0) (c := k13c0) (by decide +kernel) rfl rfl rfl (by decide +kernel)
set_option maxRecDepth 65536 in
theorem w_c14 : (Jvm.Cond.code ({ cls := "java/util/Optional", name := "isPresent", desc := "()Z" } : Jvm.MethodName) jdk_32_method_6_code (1 : Nat) (Option.some Jvm.ClassFile.FieldType.boolean)).before args0 about1 = true := code_word (m := ⟨13, 4⟩) (meth := k13m4) (c := k13c4) (by decide +kernel) rfl rfl rfl (by decide +kernel)
set_option maxRecDepth 65536 in
theorem w_c15 : (Jvm.Cond.code ({ cls := "java/lang/String", name := "length", desc := "()I" } : Jvm.MethodName) jdk_42_method_54_code (1 : Nat) (Option.some Jvm.ClassFile.FieldType.int)).before args0 about1 = true := code_word (m := ⟨7, 2⟩) (meth := k7m2) (c := k7c2) (by decide +kernel) rfl rfl rfl (by decide +kernel)
set_option maxRecDepth 65536 in
theorem w_c16 : (Jvm.Cond.code ({ cls := "java/lang/String", name := "coder", desc := "()B" } : Jvm.MethodName) jdk_42_method_152_code (1 : Nat) (Option.some Jvm.ClassFile.FieldType.byte)).before args0 about1 = true := code_word (m := ⟨7, 6⟩) (meth := k7m6) (c := k7c6) (by decide +kernel) rfl rfl rfl (by decide +kernel)
set_option maxRecDepth 65536 in
theorem w_c17 : (Jvm.Cond.code ({ cls := "com/example/tasklane/tasklane/engine/InstanceStateFromIdPinLaw", name := "at", desc := "(Ljava/lang/String;I)C" } : Jvm.MethodName) method_4_code (2 : Nat) (Option.some Jvm.ClassFile.FieldType.char)).before args0 about1 = true := code_word (m := ⟨1, 3⟩) (meth := k1m3) (c := k1c3) (by decide +kernel) rfl rfl rfl (by decide +kernel)
set_option maxRecDepth 65536 in
theorem w_c18 : (Jvm.Cond.code ({ cls := "java/lang/String", name := "charAt", desc := "(I)C" } : Jvm.MethodName) jdk_42_method_56_code (2 : Nat) (Option.some Jvm.ClassFile.FieldType.char)).before args0 about1 = true := code_word (m := ⟨7, 3⟩) (meth := k7m3) (c := k7c3) (by decide +kernel) rfl rfl rfl (by decide +kernel)
set_option maxRecDepth 65536 in
theorem w_c19 : (Jvm.Cond.code ({ cls := "java/lang/String", name := "isLatin1", desc := "()Z" } : Jvm.MethodName) jdk_42_method_154_code (1 : Nat) (Option.some Jvm.ClassFile.FieldType.boolean)).before args0 about1 = true := code_word (m := ⟨7, 7⟩) (meth := k7m7) (c := k7c7) (by decide +kernel) rfl rfl rfl (by decide +kernel)
set_option maxRecDepth 65536 in
theorem w_c20 : (Jvm.Cond.code ({ cls := "java/lang/StringLatin1", name := "charAt", desc := "([BI)C" } : Jvm.MethodName) jdk_43_method_2_code (2 : Nat) (Option.some Jvm.ClassFile.FieldType.char)).before args0 about1 = true := code_word (m := ⟨9, 1⟩) (meth := k9m1) (c := k9c1) (by decide +kernel) rfl rfl rfl (by decide +kernel)
set_option maxRecDepth 65536 in
theorem w_c21 : (Jvm.Cond.code ({ cls := "java/lang/String", name := "checkIndex", desc := "(II)V" } : Jvm.MethodName) jdk_42_method_155_code (2 : Nat) (Option.none : Option Jvm.ClassFile.FieldType)).before args0 about1 = true := code_word (m := ⟨7, 8⟩) (meth := k7m8) (c := k7c8) (by decide +kernel) rfl rfl rfl (by decide +kernel)
set_option maxRecDepth 65536 in
theorem w_c22 : (Jvm.Cond.code ({ cls := "jdk/internal/util/Preconditions", name := "checkIndex", desc := "(IILjava/util/function/BiFunction;)I" } : Jvm.MethodName) jdk_41_method_11_code (3 : Nat) (Option.some Jvm.ClassFile.FieldType.int)).before args0 about1 = true := code_word (m := ⟨14, 1⟩) (meth := k14m1) (c := k14c1) (by decide +kernel) rfl rfl rfl (by decide +kernel)
set_option maxRecDepth 65536 in
theorem w_c23 : (Jvm.Cond.code ({ cls := "java/util/Optional", name := "of", desc := "(Ljava/lang/Object;)Ljava/util/Optional;" } : Jvm.MethodName) jdk_32_method_3_code (1 : Nat) (Option.some (Jvm.ClassFile.FieldType.object "java/util/Optional"))).before args0 about1 = true := code_word (m := ⟨13, 2⟩) (meth := k13m2) (c := k13c2) (by decide +kernel) rfl rfl rfl (by decide +kernel)
set_option maxRecDepth 65536 in
theorem w_c24 : (Jvm.Cond.code ({ cls := "java/util/Objects", name := "requireNonNull", desc := "(Ljava/lang/Object;)Ljava/lang/Object;" } : Jvm.MethodName) jdk_31_method_10_code (1 : Nat) (Option.some (Jvm.ClassFile.FieldType.object "java/lang/Object"))).before args0 about1 = true := code_word (m := ⟨15, 1⟩) (meth := k15m1) (c := k15c1) (by decide +kernel) rfl rfl rfl (by decide +kernel)
set_option maxRecDepth 65536 in
theorem w_c25 : (Jvm.Cond.code ({ cls := "java/util/Optional", name := "<init>", desc := "(Ljava/lang/Object;)V" } : Jvm.MethodName) jdk_32_method_2_code (2 : Nat) (Option.none : Option Jvm.ClassFile.FieldType)).before args0 about1 = true := code_word (m := ⟨13, 1⟩) (meth := k13m1) (c := k13c1) (by decide +kernel) rfl rfl rfl (by decide +kernel)
set_option maxRecDepth 65536 in
theorem w_c26 : (Jvm.Cond.code ({ cls := "java/util/Optional", name := "get", desc := "()Ljava/lang/Object;" } : Jvm.MethodName) jdk_32_method_5_code (1 : Nat) (Option.some (Jvm.ClassFile.FieldType.object "java/lang/Object"))).before args0 about1 = true := code_word (m := ⟨13, 3⟩) (meth := k13m3) (c := k13c3) (by decide +kernel) rfl rfl rfl (by decide +kernel)
def codes1 : List Jvm.Cond := [Jvm.Cond.code x code maxLocals ret, Jvm.Cond.code ({ cls := "com/example/tasklane/tasklane/engine/InstanceStateFromIdPinLaw", name := "b", desc := "(JI)C" } : Jvm.MethodName) method_3_code (3 : Nat) (Option.some Jvm.ClassFile.FieldType.char), Jvm.Cond.code ({ cls := "com/example/tasklane/tasklane/engine/InstanceStateFromIdPinLaw", name := "prefix", desc := "([CI)Ljava/lang/String;" } : Jvm.MethodName) method_5_code (2 : Nat) (Option.some (Jvm.ClassFile.FieldType.object "java/lang/String")), Jvm.Cond.code ({ cls := "java/lang/String", name := "<init>", desc := "([C)V" } : Jvm.MethodName) jdk_42_method_3_code (2 : Nat) (Option.none : Option Jvm.ClassFile.FieldType), Jvm.Cond.code ({ cls := "java/lang/String", name := "<init>", desc := "([CIILjava/lang/Void;)V" } : Jvm.MethodName) jdk_42_method_149_code (6 : Nat) (Option.none : Option Jvm.ClassFile.FieldType), Jvm.Cond.code ({ cls := "java/lang/Object", name := "<init>", desc := "()V" } : Jvm.MethodName) object_method_1_code (1 : Nat) (Option.none : Option Jvm.ClassFile.FieldType), Jvm.Cond.code ({ cls := "java/lang/StringUTF16", name := "compress", desc := "([CII)[B" } : Jvm.MethodName) jdk_52_method_16_code (6 : Nat) (Option.some (Jvm.ClassFile.FieldType.array Jvm.ClassFile.FieldType.byte)), Jvm.Cond.code ({ cls := "java/lang/StringUTF16", name := "compress", desc := "([CI[BII)I" } : Jvm.MethodName) jdk_52_method_21_code (7 : Nat) (Option.some Jvm.ClassFile.FieldType.int), Jvm.Cond.code ({ cls := "java/lang/StringUTF16", name := "coderFromArrayLen", desc := "([BI)B" } : Jvm.MethodName) jdk_52_method_15_code (2 : Nat) (Option.some Jvm.ClassFile.FieldType.byte), Jvm.Cond.code ({ cls := "java/lang/String", name := "equals", desc := "(Ljava/lang/Object;)Z" } : Jvm.MethodName) jdk_42_method_66_code (3 : Nat) (Option.some Jvm.ClassFile.FieldType.boolean), Jvm.Cond.code ({ cls := "java/lang/StringLatin1", name := "equals", desc := "([B[B)Z" } : Jvm.MethodName) jdk_43_method_13_code (3 : Nat) (Option.some Jvm.ClassFile.FieldType.boolean), Jvm.Cond.code ({ cls := "com/example/tasklane/tasklane/engine/InstanceState", name := "fromId", desc := "(Ljava/lang/String;)Ljava/util/Optional;" } : Jvm.MethodName) prog_5_method_5_code (5 : Nat) (Option.some (Jvm.ClassFile.FieldType.object "java/util/Optional")), Jvm.Cond.code ({ cls := "com/example/tasklane/tasklane/engine/InstanceState", name := "values", desc := "()[Lcom/example/tasklane/tasklane/engine/InstanceState;" } : Jvm.MethodName) prog_5_method_1_code (0 : Nat) (Option.some (Jvm.ClassFile.FieldType.array (Jvm.ClassFile.FieldType.object "com/example/tasklane/tasklane/engine/InstanceState"))), Jvm.Cond.code ({ cls := "java/util/Optional", name := "empty", desc := "()Ljava/util/Optional;" } : Jvm.MethodName) jdk_32_method_1_code (1 : Nat) (Option.some (Jvm.ClassFile.FieldType.object "java/util/Optional")), Jvm.Cond.code ({ cls := "java/util/Optional", name := "isPresent", desc := "()Z" } : Jvm.MethodName) jdk_32_method_6_code (1 : Nat) (Option.some Jvm.ClassFile.FieldType.boolean), Jvm.Cond.code ({ cls := "java/lang/String", name := "length", desc := "()I" } : Jvm.MethodName) jdk_42_method_54_code (1 : Nat) (Option.some Jvm.ClassFile.FieldType.int), Jvm.Cond.code ({ cls := "java/lang/String", name := "coder", desc := "()B" } : Jvm.MethodName) jdk_42_method_152_code (1 : Nat) (Option.some Jvm.ClassFile.FieldType.byte), Jvm.Cond.code ({ cls := "com/example/tasklane/tasklane/engine/InstanceStateFromIdPinLaw", name := "at", desc := "(Ljava/lang/String;I)C" } : Jvm.MethodName) method_4_code (2 : Nat) (Option.some Jvm.ClassFile.FieldType.char), Jvm.Cond.code ({ cls := "java/lang/String", name := "charAt", desc := "(I)C" } : Jvm.MethodName) jdk_42_method_56_code (2 : Nat) (Option.some Jvm.ClassFile.FieldType.char), Jvm.Cond.code ({ cls := "java/lang/String", name := "isLatin1", desc := "()Z" } : Jvm.MethodName) jdk_42_method_154_code (1 : Nat) (Option.some Jvm.ClassFile.FieldType.boolean), Jvm.Cond.code ({ cls := "java/lang/StringLatin1", name := "charAt", desc := "([BI)C" } : Jvm.MethodName) jdk_43_method_2_code (2 : Nat) (Option.some Jvm.ClassFile.FieldType.char), Jvm.Cond.code ({ cls := "java/lang/String", name := "checkIndex", desc := "(II)V" } : Jvm.MethodName) jdk_42_method_155_code (2 : Nat) (Option.none : Option Jvm.ClassFile.FieldType), Jvm.Cond.code ({ cls := "jdk/internal/util/Preconditions", name := "checkIndex", desc := "(IILjava/util/function/BiFunction;)I" } : Jvm.MethodName) jdk_41_method_11_code (3 : Nat) (Option.some Jvm.ClassFile.FieldType.int), Jvm.Cond.code ({ cls := "java/util/Optional", name := "of", desc := "(Ljava/lang/Object;)Ljava/util/Optional;" } : Jvm.MethodName) jdk_32_method_3_code (1 : Nat) (Option.some (Jvm.ClassFile.FieldType.object "java/util/Optional")), Jvm.Cond.code ({ cls := "java/util/Objects", name := "requireNonNull", desc := "(Ljava/lang/Object;)Ljava/lang/Object;" } : Jvm.MethodName) jdk_31_method_10_code (1 : Nat) (Option.some (Jvm.ClassFile.FieldType.object "java/lang/Object")), Jvm.Cond.code ({ cls := "java/util/Optional", name := "<init>", desc := "(Ljava/lang/Object;)V" } : Jvm.MethodName) jdk_32_method_2_code (2 : Nat) (Option.none : Option Jvm.ClassFile.FieldType), Jvm.Cond.code ({ cls := "java/util/Optional", name := "get", desc := "()Ljava/lang/Object;" } : Jvm.MethodName) jdk_32_method_5_code (1 : Nat) (Option.some (Jvm.ClassFile.FieldType.object "java/lang/Object"))]
set_option maxRecDepth 65536 in
theorem codes_eq : words1.filter isCode = codes1 := rfl
theorem w_codes : ∀ c ∈ words1.filter isCode, c.before args0 about1 = true := by
  rw [codes_eq]
  intro c hc
  simp only [codes1, List.mem_cons, List.not_mem_nil, or_false] at hc
  rcases hc with rfl | rfl | rfl | rfl | rfl | rfl | rfl | rfl | rfl | rfl | rfl | rfl | rfl | rfl | rfl | rfl | rfl | rfl | rfl | rfl | rfl | rfl | rfl | rfl | rfl | rfl | rfl
  · exact w_c0
  · exact w_c1
  · exact w_c2
  · exact w_c3
  · exact w_c4
  · exact w_c5
  · exact w_c6
  · exact w_c7
  · exact w_c8
  · exact w_c9
  · exact w_c10
  · exact w_c11
  · exact w_c12
  · exact w_c13
  · exact w_c14
  · exact w_c15
  · exact w_c16
  · exact w_c17
  · exact w_c18
  · exact w_c19
  · exact w_c20
  · exact w_c21
  · exact w_c22
  · exact w_c23
  · exact w_c24
  · exact w_c25
  · exact w_c26
set_option maxRecDepth 65536 in
theorem w_t1 : (words1.take 24).all (fun c => isCode c || c.before args0 about1) = true := by decide +kernel
set_option maxRecDepth 65536 in
theorem w_t2 : ((words1.drop 24).take 24).all (fun c => isCode c || c.before args0 about1) = true := by decide +kernel
set_option maxRecDepth 65536 in
theorem w_t3 : (((words1.drop 24).drop 24).take 24).all (fun c => isCode c || c.before args0 about1) = true := by decide +kernel
set_option maxRecDepth 65536 in
theorem w_t4 : ((((words1.drop 24).drop 24).drop 24).take 24).all (fun c => isCode c || c.before args0 about1) = true := by decide +kernel
set_option maxRecDepth 65536 in
theorem w_t5 : (((((words1.drop 24).drop 24).drop 24).drop 24).take 24).all (fun c => isCode c || c.before args0 about1) = true := by decide +kernel
set_option maxRecDepth 65536 in
theorem w_t6 : ((((((words1.drop 24).drop 24).drop 24).drop 24).drop 24).take 24).all (fun c => isCode c || c.before args0 about1) = true := by decide +kernel
set_option maxRecDepth 65536 in
theorem w_t7 : ((((((words1.drop 24).drop 24).drop 24).drop 24).drop 24).drop 24).all (fun c => isCode c || c.before args0 about1) = true := by decide +kernel
theorem w_tables : (allAtoms (Jvm.Cond.code x code maxLocals ret :: tables_1)).before args0 about1 = true := by
  rw [allAtoms_all]
  show words1.all (fun c => c.before args0 about1) = true
  refine all_split ?_ w_codes
  rw [← List.take_append_drop 24 words1, List.all_append, w_t1, ← List.take_append_drop 24 (words1.drop 24), List.all_append, w_t2, ← List.take_append_drop 24 ((words1.drop 24).drop 24), List.all_append, w_t3, ← List.take_append_drop 24 (((words1.drop 24).drop 24).drop 24), List.all_append, w_t4, ← List.take_append_drop 24 ((((words1.drop 24).drop 24).drop 24).drop 24), List.all_append, w_t5, ← List.take_append_drop 24 (((((words1.drop 24).drop 24).drop 24).drop 24).drop 24), List.all_append, w_t6, w_t7]
  rfl
set_option maxRecDepth 65536 in
theorem w_rest : rest_1_c.before args0 about1 = true := by decide +kernel
set_option maxRecDepth 65536 in
theorem w_case : (Jvm.Cond.and given_1 narrow_1).before args0 about1 = true := by decide +kernel
set_option maxRecDepth 65536 in
theorem w_consts : constsHeld consts_1 about1 := Jvm.Lit.constsHeldB_iff.mp (by decide +kernel)
theorem w_applies : (headSpec (Jvm.Cond.code x code maxLocals ret :: tables_1) room_1).applies x e0.platform about1 = true :=
  (Spec.applies_iff w_frames).mpr ⟨w_running, w_runnable, w_alone, w_named, w_hears, w_ripe, w_room, w_tables⟩
theorem atStart : AtStart classFile x code maxLocals ret World_1 tables_1 room_1 Calls_1 rest_1 Pre_1 launch0 p0 e0 about1 theMethod args0 below0 :=
  ⟨lists_1, trivial, launch0.admits_env _ _ _, launch0.least_env, fairChoices_fair.cas, fairChoices_fair.clock, w_frames, w_args, w_heap, w_applies, ⟨w_consts, trivial⟩, w_rest, w_case⟩
end start1
theorem witness_1 : WitnessClaimed_1 := ⟨start1.p0, start1.e0, start1.about1, start1.theMethod, start1.args0, start1.below0, start1.atStart⟩
end Jvm.Pilot.@@N@@
