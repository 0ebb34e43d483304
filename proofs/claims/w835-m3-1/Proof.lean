import JvmDerived
import JvmDerived.Pilot.@@N@@Statement
import JvmDerived.Pilot.@@N@@Code
set_option linter.unusedVariables false
set_option linter.unusedSimpArgs false
namespace Jvm.Pilot.@@N@@.W
open Jvm Jvm.ClassFile Sem Op Lib Jvm.Free Jvm.Stand Jvm.LawKit Jvm.RoadKit
/-! String constants: whatever entry of cl the VM holds an object for, that object bears the entry's text; its two cells are none of xs (the places that the walk may write) -/
def Lt (Z : State) (h : Heap) (xs : List Addr) (a : Addr) (units : Array UInt16) : Prop :=
  ∃ (t : Addr) (kb : ClassId), Exa Z h a "java/lang/String" ∧ Fld Z h a "java/lang/String" "value" "[B" (.ref t) ∧ Fld Z h a "java/lang/String" "coder" "B" (.int 0) ∧ Arv Z h t kb .byte (Int32.ofNat units.size) (units.toList.map fun u => Value.int (Jvm.Lit.byteI u)) (.int 0) ∧ a ∉ xs ∧ t ∉ xs
def Lits (Z : State) (cl : List (String × Nat)) (xs : List Addr) (vm : Vm) (h : Heap) : Prop :=
  (∀ x ∈ xs, x < h.size) ∧ ∀ q ∈ cl, ∀ (c : ClassId) (k : Class) (cf : ClassFile) (i : Nat) (units : Array UInt16) (a : Addr), vm.findClass q.1 = some c → vm.classes[c]? = some k → k.cf = some cf → cf.constantPool[q.2]? = some (.string i) → cf.constantPool[i]? = some (.utf8 units) →
    (k.resolved[q.2]? = some (some (.string a)) ∨ (k.resolved[q.2]? = some none ∧ vm.interned.find? (fun p => p.1 == units) = some (units, a))) → Lt Z h xs a units
section LitFacts
variable {Z : State} {cl : List (String × Nat)} {xs : List Addr} {vm : Vm} {h h' : Heap} {a : Addr} {units : Array UInt16}
theorem Lt.ext (F : Lt Z h xs a units) (E : Ext h h') : Lt Z h' xs a units := by
  obtain ⟨t, kb, f1, f2, f3, f4, f5, f6⟩ := F
  exact ⟨t, kb, f1.ext E, f2.ext E, f3.ext E, f4.ext E, f5, f6⟩
theorem Lt.keep {ws : List Addr} (F : Lt Z h xs a units) (K : Keep h h' ws) (hw : ∀ x ∈ ws, x ∈ xs) : Lt Z h' xs a units := by
  obtain ⟨t, kb, f1, f2, f3, f4, f5, f6⟩ := F
  exact ⟨t, kb, f1.keep K, f2.keep K (fun q => f5 (hw _ q)), f3.keep K (fun q => f5 (hw _ q)), f4.keep K (fun q => f6 (hw _ q)), f5, f6⟩
theorem Lt.cons {b : Addr} (F : Lt Z h xs a units) (hb : h.size ≤ b) : Lt Z h (b :: xs) a units := by
  obtain ⟨t, kb, f1, f2, f3, f4, f5, f6⟩ := F
  exact ⟨t, kb, f1, f2, f3, f4, ninS (Nat.ne_of_lt (Nat.lt_of_lt_of_le f1.lt hb)) f5, ninS (Nat.ne_of_lt (Nat.lt_of_lt_of_le f4.lt hb)) f6⟩
theorem Lt.sub {ys : List Addr} (F : Lt Z h xs a units) (hs : ∀ x ∈ ys, x ∈ xs) : Lt Z h ys a units := by
  obtain ⟨t, kb, f1, f2, f3, f4, f5, f6⟩ := F
  exact ⟨t, kb, f1, f2, f3, f4, fun q => f5 (hs _ q), fun q => f6 (hs _ q)⟩
theorem Lits.ext (F : Lits Z cl xs vm h) (E : Ext h h') : Lits Z cl xs vm h' := ⟨fun x hx => Nat.lt_of_lt_of_le (F.1 x hx) E.1, fun q hq c k cf i u a h1 h2 h3 h4 h5 h6 => (F.2 q hq c k cf i u a h1 h2 h3 h4 h5 h6).ext E⟩
theorem Lits.keep {ws : List Addr} (F : Lits Z cl xs vm h) (K : Keep h h' ws) (hw : ∀ x ∈ ws, x ∈ xs) : Lits Z cl xs vm h' := ⟨fun x hx => Nat.lt_of_lt_of_le (F.1 x hx) K.1, fun q hq c k cf i u a h1 h2 h3 h4 h5 h6 => (F.2 q hq c k cf i u a h1 h2 h3 h4 h5 h6).keep K hw⟩
theorem Lits.wr {b : Addr} {sl : Nat} {v : Value} (F : Lits Z cl xs vm h) (W : Wr h h' b sl v) (hb : b ∈ xs) : Lits Z cl xs vm h' := F.keep (Keep.of_wr W) (allS hb all0)
theorem Lits.cons {b : Addr} (F : Lits Z cl xs vm h) (hb : h.size ≤ b) (E : Ext h h') (hb' : b < h'.size) : Lits Z cl (b :: xs) vm h' := ⟨allS hb' fun x hx => Nat.lt_of_lt_of_le (F.1 x hx) E.1, fun q hq c k cf i u a h1 h2 h3 h4 h5 h6 => ((F.2 q hq c k cf i u a h1 h2 h3 h4 h5 h6).cons hb).ext E⟩
theorem Lits.sub {ys : List Addr} (F : Lits Z cl xs vm h) (hs : ∀ x ∈ ys, x ∈ xs) : Lits Z cl ys vm h := ⟨fun x hx => F.1 x (hs x hx), fun q hq c k cf i u a h1 h2 h3 h4 h5 h6 => (F.2 q hq c k cf i u a h1 h2 h3 h4 h5 h6).sub hs⟩
/-- the tables are warmer, the intern table at most one pair longer, whose object bears that pair's text -/
theorem Lits.step {s : State} {vm0 vm1 : Vm} (F : Lits Z cl xs vm0 h) (hsv : s.vm = vm0) (hW : s.Warmed39 vm1) (hi : vm1.interned = vm0.interned ∨ ∃ (units : Array UInt16) (a : Addr), vm1.interned = vm0.interned.push (units, a) ∧ Lt Z h xs a units) : Lits Z cl xs vm1 h := by
  subst hsv
  refine ⟨F.1, ?_⟩
  intro q hq c k1 cf i us b h1 h2 h3 h4 h5 h6
  have hf0 : s.vm.findClass q.1 = some c := by rw [← hW.alike.findClass]; exact h1
  obtain ⟨k0, hk0, -⟩ := Vm.findClass_spec hf0
  obtain ⟨k1', e1, e2, e3, e4, -⟩ := hW.2.2.2 c k0 hk0
  cases h2.symm.trans e1
  have hcf0 : k0.cf = some cf := by rw [e2] at h3; exact h3
  -- what the longer intern table finds
  have fnd : vm1.interned.find? (fun p => p.1 == us) = some (us, b) → s.vm.interned.find? (fun p => p.1 == us) = some (us, b) ∨ (s.vm.interned.find? (fun p => p.1 == us) = none ∧ Lt Z h xs b us) := fun hf => by
    rcases hi with hi | ⟨u0, a0, hi, hl⟩
    · exact Or.inl (by rw [← hi]; exact hf)
    · rw [hi, Array.find?_push] at hf
      cases hs : s.vm.interned.find? (fun p => p.1 == us) with
      | some z => rw [hs] at hf; exact Or.inl (by simpa using hf)
      | none =>
        rw [hs] at hf
        simp only [Option.none_or] at hf
        split at hf
        · cases hf; exact Or.inr ⟨rfl, hl⟩
        · cases hf
  have fin0 : k0.resolved[q.2]? = some none → vm1.interned.find? (fun p => p.1 == us) = some (us, b) → Lt Z h xs b us := fun ho hf => by
    rcases fnd hf with g | g
    · exact F.2 q hq c k0 cf i us b hf0 hk0 hcf0 h4 h5 (Or.inr ⟨ho, g⟩)
    · exact g.2
  rcases e4 q.2 with e0 | ⟨ho, r, e5, hr | ⟨a', text, si, us', rfl, -, q3, q4, q5⟩⟩
  · rcases h6 with h6 | ⟨h6, h7⟩
    · exact F.2 q hq c k0 cf i us b hf0 hk0 hcf0 h4 h5 (Or.inl (e0.symm.trans h6))
    · exact fin0 (e0.symm.trans h6) h7
  · exfalso
    rcases h6 with h6 | ⟨h6, -⟩
    · cases e5.symm.trans h6
      simp [State.rightAt, hk0, hcf0] at hr
    · cases e5.symm.trans h6
  · rcases h6 with h6 | ⟨h6, -⟩
    · cases e5.symm.trans h6
      rw [hcf0] at q3 q4
      have e7 : si = i := by
        have z := q3.symm.trans h4
        simpa using z
      subst e7
      have e8 : us' = us := by simpa [ConstantPool.utf8?, h5] using q4.symm
      subst e8
      exact fin0 ho q5
    · cases e5.symm.trans h6
/-- what the library says of a constant's object, in the facts' words -/
theorem lt_core {U : State} {q : SB.SQ} {cS : ClassId} (hal : Z.vm.Alike U.vm) (hlat : units.all (· < 256) = true) (hsl : SBG.Sl q cS U) (hkS : ∃ kS : Class, U.vm.classes[cS]? = some kS ∧ kS.kind = .ordinary ∧ q.sC.slots.size = kS.instanceTypes.size) (hB : U.vm.findClass "[B" = some q.SA.cls) (hbyt : q.SA.slots = stringBytes units) (ha : q.sa ∉ xs) (ht : q.sd ∉ xs) : Lt Z U.heap xs q.sa units := by
  obtain ⟨⟨s1, s2, s3, ⟨cv, kv, iv, s4, s4'⟩, ⟨cc, kc, ic, s5, s5'⟩, s6, s7, s8, s9, s10, s11, s12, s13, s14, s15, s16⟩, hfS, hcS⟩ := hsl
  obtain ⟨kS, k1, k2, k3⟩ := hkS
  obtain ⟨kv', z4⟩ := ff_back hal s4
  obtain ⟨kc', z5⟩ := ff_back hal s5
  have hfZ : Z.vm.findClass "java/lang/String" = some q.sC.cls := by rw [← hal.findClass, hcS]; exact hfS
  obtain ⟨kz, hkz, -⟩ := Vm.findClass_spec hfZ
  obtain ⟨kz', hkz', ekz⟩ := hal.2.2 _ _ hkz
  have ekS : kz' = kS := Option.some.inj (hkz'.symm.trans (hcS ▸ k1))
  have hBZ : Z.vm.findClass "[B" = some q.SA.cls := by rw [← hal.findClass]; exact hB
  obtain ⟨kb, hkb, -⟩ := Vm.findClass_spec hBZ
  obtain ⟨kb', hkb', ekb⟩ := hal.2.2 _ _ hkb
  obtain ⟨hst, k9, hk9, comp, hkind9⟩ := s11
  have ek9 : k9 = kb' := Option.some.inj (hk9.symm.trans hkb')
  have hAZ : Z.isArrayOf q.SA .byte := ⟨hst, kb, hkb, comp, by rw [ek9, ekb] at hkind9; exact hkind9⟩
  have hsl : q.SA.slots = units.map fun u => Value.int (Jvm.Lit.byteI u) := by rw [hbyt, SBG.stringBytes_lat hlat]; rfl
  have hsz : q.SA.slots.size = units.size := by rw [hsl, Array.size_map]
  have hb31 : units.size < 2 ^ 31 := by rw [← hsz, s13]; exact s14
  have hnn : ¬ Int32.ofNat units.size < 0 := by
    rw [Int32.lt_iff_toInt_lt, Int32.toInt_ofNat_small hb31]; have : (0 : Int32).toInt = 0 := rfl; omega
  have hnc : (Int32.ofNat units.size).toNatClampNeg = units.size := by
    show (Int32.ofNat units.size).toInt.toNat = _
    rw [Int32.toInt_ofNat_small hb31]; simp
  have H : Has q.SA (units.toList.map fun u => Value.int (Jvm.Lit.byteI u)) (.int 0) := fun j hj => by
    have hj' : j < units.size := by omega
    rw [hsl]; simp [hj']
  refine ⟨q.sd, q.SA.cls, ⟨q.sC, kz, s1, hfZ, hkz, s3, fun ho => by rw [k3, ← ekS, ekz]⟩, ⟨q.sC, cv, kv', iv, q.fSV, s1, z4, s6, s2, s3, by rw [← hal.assignable]; exact s4', s8⟩, ⟨q.sC, cc, kc', ic, q.fSC, s1, z5, s7, s2, s3, by rw [← hal.assignable]; exact s5', s9⟩, ⟨q.SA, ⟨s10, hAZ, s12⟩, rfl, by rw [hsz, hnc], hnn, H, fun j hj => ?_⟩, ha, ht⟩
  have e1 := s16 j hj
  have e2 := H j hj
  rw [SBG.getD_of e2] at e1
  exact e1
theorem lt_of_sl {U : State} (hal : Z.vm.Alike U.vm) (hlat : units.all (· < 256) = true) (F : SlOf U a units) : Lt Z U.heap [] a units := by
  obtain ⟨q, cS, rfl, hsl, hkS, hB, hbyt⟩ := F
  exact lt_core hal hlat hsl hkS hB hbyt nin0 nin0
/-- at the case's start -/
theorem Lits.start {a0 : Array Value} (hh : ∀ q ∈ cl, Jvm.Lit.constHeld Z q.1 q.2) (hl : ∀ q ∈ cl, ∃ text : String, (Cond.stringLink q.1 q.2 text).before a0 Z = true ∧ ∀ c ∈ text.toList, c.toNat < 256) (hcw : Jvm.Lit.compactW.before a0 Z = true) (wa : (Cond.arrayClass .byte).before a0 Z = true) (wi : (Cond.instantiable "java/lang/String" 4).before a0 Z = true) : Lits Z cl [] Z.vm Z.heap := by
  refine ⟨all0, ?_⟩
  intro q hq c k cf i us b h1 h2 h3 h4 h5 h6
  obtain ⟨text, w, ht⟩ := hl q hq
  obtain ⟨k', cf', i', us', hk', hcf', hp', hu', -, htext, -⟩ := Cond.stringLink_spec h1 w
  cases h2.symm.trans hk'
  cases h3.symm.trans hcf'
  cases h4.symm.trans hp'
  cases h5.symm.trans hu'
  exact lt_of_sl (Vm.Alike.refl _) (Jvm.ClassFile.lat_of_text htext ht) (heldStart (hh q hq) w ht hcw wa wi c k cf i us b h1 h2 h3 h4 h5 h6)
end LitFacts
/-- of that class (nothing on its number of slots) -/
def Isa (Z : State) (h : Heap) (a : Addr) (C : String) : Prop := ∃ (cell : Cell) (k : Class), h[a]? = some cell ∧ Z.vm.findClass C = some cell.cls ∧ Z.vm.classes[cell.cls]? = some k ∧ cell.vm.isStatics = false
theorem Isa.ext {Z : State} {h h' : Heap} {a : Addr} {C : String} (F : Isa Z h a C) (E : Ext h h') : Isa Z h' a C := by obtain ⟨c, k, h1, r⟩ := F; exact ⟨c, k, E.2 _ _ h1, r⟩
theorem isa_of {Z : State} {h : Heap} {a : Addr} {C : String} (F : Exa Z h a C) : Isa Z h a C := by obtain ⟨c, k, h1, h2, h3, h4, -⟩ := F; exact ⟨c, k, h1, h2, h3, h4⟩
theorem isOf1 {Z s T : State} {h : Heap} {a : Addr} {C : String} (hZ : Z.Warmed39 s.vm) (eT : T.heap = h) (E : Isa Z h a C) : ∃ cB kB, s.vm.findClass C = some cB ∧ s.vm.classes[cB]? = some kB ∧ IsOf cB T a := by
  obtain ⟨cell, k, h1, h2, h3, h4⟩ := E
  obtain ⟨k', q, -⟩ := hZ.alike.2.2 _ _ h3
  exact ⟨cell.cls, k', by rw [hZ.alike.findClass]; exact h2, q, cell, by rw [eT]; exact h1, rfl, h4⟩
theorem Isa.ins {Z : State} {h : Heap} {a : Addr} {C : String} (F : Isa Z h a C) : Ins Z h a C true := by
  obtain ⟨cell, k, h1, h2, h3, h4⟩ := F
  exact ⟨cell, _, h1, h2, by simp [h4, Vm.assignable_self]⟩
/-- what stays fixed in a body's walk, the tables left out -/
def Cx0 (bytes : ByteArray) (maxL : Nat) (ret : Option FieldType) (mn : String) (p : Program) (meth : Method) (c : Code) : Prop :=
  p.tables.exec = Jvm.exec ∧ c.code = bytes ∧ c.maxLocals = maxL ∧ meth.sig.returnType = ret ∧ meth.locks = false ∧ meth.name = mn
/-- and with the tables at hand -/
def Cx (Z : State) (own : String) (bytes : ByteArray) (maxL : Nat) (ret : Option FieldType) (mn : String) (p : Program) (s : State) (m : MethodId) (meth : Method) (c : Code) : Prop :=
  p.tables.exec = Jvm.exec ∧ Z.Warmed39 s.vm ∧ s.vm.findClass own = some m.cls ∧ c.code = bytes ∧ c.maxLocals = maxL ∧ meth.sig.returnType = ret ∧ meth.locks = false ∧ meth.name = mn
/-- from the frame f at the heap h on, the body runs to its end and leaves Q; String constants may come to be loaded -/
def Go (p : Program) (l : Launch) (e : Env) (R : Room) (s : State) (m : MethodId) (args : Array Value) (below : List Frame) (meth : Method) (c : Code) (Z : State) (own : String) (cl : List (String × Nat)) (xs0 : List Addr) (n0 kc ks : Nat) (Q : Option Value → Heap → Prop) (xs : List Addr) (h : Heap) (cells slots : Nat) (f : JFrame) : Prop :=
  ∀ (T : State) (locs : List Loc) (vm0 : Vm) (k0 : Nat), Stand p l e R (s.setVm vm0) m args below meth c T locs cells slots → s.Since vm0 k0 → k0 ≤ h.size → Z.Warmed39 vm0 → vm0.findClass own = some m.cls → T.heap = h → Fr n0 locs → Lits Z cl xs vm0 h →
    ∃ s₂ o, Steps p.tables e below (T.setTop f) s₂ ∧ s₂.status = .running ∧ Ended s₂ below o ∧ ∃ v L, o = .returned v ∧ (Q v s₂.heap ∧ Lits Z cl xs0 s₂.vm s₂.heap ∧ Fr n0 L) ∧ ReturnedEndW s o s₂ L kc ks
/-- a body's contract: called with as' at the heap h it returns, and Q holds -/
def Ctr (l : Launch) (Z : State) (cl : List (String × Nat)) (xs : List Addr) (n0 : Nat) (y : MethodName) (bytes : ByteArray) (maxL : Nat) (ret : Option FieldType) (ws : List Cond) (rm : Room) (as' : Array Value) (h : Heap) (Q : Option Value → Heap → Prop) : Prop :=
  MetFree l y (head1 (Cond.code y bytes maxL ret :: ws) rm) (fun a U => a = as' ∧ Z.Warmed39 U.vm ∧ U.heap = h ∧ Lits Z cl xs U.vm h) (fun _ _ _ _ _ => True) (fun _ U o U' => ∃ v L, o = .returned v ∧ (Q v U'.heap ∧ Lits Z cl xs U'.vm U'.heap ∧ Fr n0 L) ∧ ReturnedEndW U o U' L rm.cells rm.slots)
theorem Ctr.body {l : Launch} {Z : State} {cl : List (String × Nat)} {xs : List Addr} {n0 : Nat} {y : MethodName} {bytes : ByteArray} {maxL : Nat} {ret : Option FieldType} {ws : List Cond} {rm : Room} {as' : Array Value} {h : Heap} {Q : Option Value → Heap → Prop}
    (hp : plainFor y = true)
    (body : ∀ p e s m below meth c, Cx0 bytes maxL ret y.name p meth c → Go p l e rm s m as' below meth c Z y.cls cl xs n0 rm.cells rm.slots Q xs h 0 0 (entryFrame m as' maxL)) : Ctr l Z cl xs n0 y bytes maxL ret ws rm as' h Q := by
  refine MetFree.of_bodySF hp hisR ?_
  intro p e s m args below meth c s₁ Bd hml0 hP hK
  obtain ⟨rfl, hZ, hh, hL⟩ := hP
  exact body p e s m below meth c ⟨Bd.exec, Bd.bytes, hml0, Bd.returns, Bd.notSynchronized, (name_of_methodNamed Bd.named Bd.method).1⟩ s₁ [] s.vm 0 (Stand.of_body Bd) ((State.WarmedH.refl s).since 0) (Nat.zero_le _) hZ (findClass_of_methodNamed Bd.named) (by rw [← hh, Bd.state]; rfl) (Fr.nil n0) hL
theorem Ctr.mono {l : Launch} {Z : State} {cl : List (String × Nat)} {xs : List Addr} {n0 : Nat} {y : MethodName} {bytes : ByteArray} {maxL : Nat} {ret : Option FieldType} {ws : List Cond} {rm : Room} {as' : Array Value} {h : Heap} {Q Q' : Option Value → Heap → Prop}
    (C : Ctr l Z cl xs n0 y bytes maxL ret ws rm as' h Q) (hq : ∀ v h', Q v h' → Q' v h') : Ctr l Z cl xs n0 y bytes maxL ret ws rm as' h Q' := by
  intro p e ha hc hk s m args below hf happ hP hK
  obtain ⟨n, o, h1, h2, h3, v, L, h4, ⟨h5, h6⟩, h7⟩ := C p e ha hc hk s m args below hf happ hP hK
  exact ⟨n, o, h1, h2, h3, v, L, h4, ⟨hq _ _ h5, h6⟩, h7⟩
def cdP (cd : ClassFile.Cond) (x y : Int32) : Prop := match cd with
  | .eq => x = y
  | .ne => ¬ x = y
  | .lt => x < y
  | .ge => ¬ x < y
  | .gt => y < x
  | .le => ¬ y < x
def cdN (cd : ClassFile.Cond) (x y : Int32) : Prop := match cd with
  | .eq => ¬ x = y
  | .ne => x = y
  | .lt => ¬ x < y
  | .ge => x < y
  | .gt => ¬ y < x
  | .le => y < x
theorem cd_yes {cd : ClassFile.Cond} {x y : Int32} (h : cdP cd x y) : if_icmp.holds cd x y = true := by
  cases cd
  · exact (teq h).1
  · exact (feq h).2
  · exact (tlt h).1
  · exact (flt h).2.1
  · exact (tlt h).2.2.1
  · exact (flt h).2.2.2
theorem cd_no {cd : ClassFile.Cond} {x y : Int32} (h : cdN cd x y) : if_icmp.holds cd x y = false := by
  cases cd
  · exact (feq h).1
  · exact (teq h).2
  · exact (flt h).1
  · exact (tlt h).2.1
  · exact (flt h).2.2.1
  · exact (tlt h).2.2.2
theorem cd_em (cd : ClassFile.Cond) (x y : Int32) : cdP cd x y ∨ cdN cd x y := by
  cases cd
  · exact Decidable.em (x = y)
  · exact (Decidable.em (x = y)).symm
  · exact Decidable.em (x < y)
  · exact (Decidable.em (x < y)).symm
  · exact Decidable.em (y < x)
  · exact (Decidable.em (y < x)).symm
section Rules
variable {p : Program} {l : Launch} {e : Env} {R : Room} {s : State} {m : MethodId} {args : Array Value} {below : List Frame} {meth : Method} {c : Code} {Z : State} {a0 : Array Value} {own mn : String} {cl : List (String × Nat)} {xs0 xs : List Addr} {bytes : ByteArray} {maxL : Nat} {ret : Option FieldType} {n0 kc ks : Nat} {Q : Option Value → Heap → Prop} {h : Heap} {cells slots : Nat} {pc q : Nat} {L : Array Slot} {S : List Value}
theorem Cx0.at {s' : State} (K : Cx0 bytes maxL ret mn p meth c) (hZ : Z.Warmed39 s'.vm) (ho : s'.vm.findClass own = some m.cls) : Cx Z own bytes maxL ret mn p s' m meth c := ⟨K.1, hZ, ho, K.2⟩
theorem Go.of_step {f f' : JFrame} (K : Cx0 bytes maxL ret mn p meth c) (st : ∀ s', Cx Z own bytes maxL ret mn p s' m meth c → ∀ T locs, Stand p l e R s' m args below meth c T locs cells slots → T.heap = h → ∀ t, Steps p.tables e below (T.setTop f') t → Steps p.tables e below (T.setTop f) t) (k : Go p l e R s m args below meth c Z own cl xs0 n0 kc ks Q xs h cells slots f') : Go p l e R s m args below meth c Z own cl xs0 n0 kc ks Q xs h cells slots f := fun T locs vm0 k0 X hS hk hZ ho eT N H => by
  obtain ⟨s₂, o, a1, a2⟩ := k T locs vm0 k0 X hS hk hZ ho eT N H
  exact ⟨s₂, o, st (s.setVm vm0) (K.at hZ ho) T locs X eT _ a1, a2⟩
/-- a step that warms the tables, the heap as it was -/
theorem Go.of_warm {f f' : JFrame} (K : Cx0 bytes maxL ret mn p meth c) (st : ∀ s', Cx Z own bytes maxL ret mn p s' m meth c → ∀ T locs, Stand p l e R s' m args below meth c T locs cells slots → T.heap = h → ∃ T', Stand p l e R s' m args below meth c T' locs cells slots ∧ T'.heap = h ∧ ∀ t, Steps p.tables e below (T'.setTop f') t → Steps p.tables e below (T.setTop f) t) (k : Go p l e R s m args below meth c Z own cl xs0 n0 kc ks Q xs h cells slots f') : Go p l e R s m args below meth c Z own cl xs0 n0 kc ks Q xs h cells slots f := fun T locs vm0 k0 X hS hk hZ ho eT N H => by
  obtain ⟨T', X', eT', st'⟩ := st (s.setVm vm0) (K.at hZ ho) T locs X eT
  obtain ⟨s₂, o, a1, a2⟩ := k T' locs vm0 k0 X' hS hk hZ ho eT' N H
  exact ⟨s₂, o, st' _ a1, a2⟩
/-- a step that makes or writes -/
theorem Go.of_heap {f : JFrame} {cells' slots' : Nat} (K : Cx0 bytes maxL ret mn p meth c) (st : ∀ s', Cx Z own bytes maxL ret mn p s' m meth c → ∀ T locs, Stand p l e R s' m args below meth c T locs cells slots → T.heap = h → Fr n0 locs → ∃ (T' : State) (h' : Heap) (locs' : List Loc) (f' : JFrame) (xs' : List Addr), Stand p l e R s' m args below meth c T' locs' cells' slots' ∧ T'.heap = h' ∧ h.size ≤ h'.size ∧ Fr n0 locs' ∧ (∀ vm, Lits Z cl xs vm h → Lits Z cl xs' vm h') ∧ (∀ t, Steps p.tables e below (T'.setTop f') t → Steps p.tables e below (T.setTop f) t) ∧ Go p l e R s m args below meth c Z own cl xs0 n0 kc ks Q xs' h' cells' slots' f') : Go p l e R s m args below meth c Z own cl xs0 n0 kc ks Q xs h cells slots f := fun T locs vm0 k0 X hS hk hZ ho eT N H => by
  obtain ⟨T', h', locs', f', xs', X', eT', hsz, N', H', st', k⟩ := st (s.setVm vm0) (K.at hZ ho) T locs X eT N
  obtain ⟨s₂, o, a1, a2⟩ := k T' locs' vm0 k0 X' hS (Nat.le_trans hk hsz) hZ ho eT' N' (H' _ H)
  exact ⟨s₂, o, st' _ a1, a2⟩
theorem Go.entry {f f' : JFrame} (q : f = f') (k : Go p l e R s m args below meth c Z own cl xs0 n0 kc ks Q xs h cells slots f') : Go p l e R s m args below meth c Z own cl xs0 n0 kc ks Q xs h cells slots f := q ▸ k
theorem Go.weaken {f : JFrame} {Q' : Option Value → Heap → Prop} (k : Go p l e R s m args below meth c Z own cl xs0 n0 kc ks Q' xs h cells slots f) (hq : ∀ v h', Q' v h' → Q v h') : Go p l e R s m args below meth c Z own cl xs0 n0 kc ks Q xs h cells slots f := fun T locs vm0 k0 X hS hk hZ ho eT N H => by
  obtain ⟨s₂, o, a1, a2, a3, v, L, a4, ⟨a5, a6⟩, a7⟩ := k T locs vm0 k0 X hS hk hZ ho eT N H
  exact ⟨s₂, o, a1, a2, a3, v, L, a4, ⟨hq _ _ a5, a6⟩, a7⟩
/-- more cells and slots may be booked -/
theorem Go.more {f : JFrame} {cells' slots' : Nat} (hc : cells ≤ cells') (hs : slots ≤ slots') (k : Go p l e R s m args below meth c Z own cl xs0 n0 kc ks Q xs h cells' slots' f) : Go p l e R s m args below meth c Z own cl xs0 n0 kc ks Q xs h cells slots f := fun T locs vm0 k0 X hS hk hZ ho eT N H => k T locs vm0 k0 (X.more hc hs) hS hk hZ ho eT N H
/-- fewer places are kept apart -/
theorem Go.less {f : JFrame} {ys : List Addr} (hs : ∀ x ∈ ys, x ∈ xs) (k : Go p l e R s m args below meth c Z own cl xs0 n0 kc ks Q ys h cells slots f) : Go p l e R s m args below meth c Z own cl xs0 n0 kc ks Q xs h cells slots f := fun T locs vm0 k0 X hS hk hZ ho eT N H => k T locs vm0 k0 X hS hk hZ ho eT N (H.sub hs)
theorem Go.aloadN (K : Cx0 bytes maxL ret mn p meth c) (hq : pc + 1 = q) {k : Fin 4} {v : Value} (hd : decode bytes pc = .ok (.aload_n k, 1)) (hl : L[k.val]? = some (.val v)) (hv : v.isRef = true) (r : Go p l e R s m args below meth c Z own cl xs0 n0 kc ks Q xs h cells slots (mkF m q L (v :: S))) : Go p l e R s m args below meth c Z own cl xs0 n0 kc ks Q xs h cells slots (mkF m pc L S) := Go.of_step K (fun s' K T locs X _ t k => by subst hq; exact XS.aloadN (g := mkF m pc L S) X.here K.1 rfl (hb K.2.2.2.1 hd) hl hv k) r
theorem Go.aload (K : Cx0 bytes maxL ret mn p meth c) (hq : pc + 2 = q) {k : Nat} {v : Value} (hd : decode bytes pc = .ok (.aload k, 2)) (hl : L[k]? = some (.val v)) (hv : v.isRef = true) (r : Go p l e R s m args below meth c Z own cl xs0 n0 kc ks Q xs h cells slots (mkF m q L (v :: S))) : Go p l e R s m args below meth c Z own cl xs0 n0 kc ks Q xs h cells slots (mkF m pc L S) := Go.of_step K (fun s' K T locs X _ t k => by subst hq; exact XS.aload (g := mkF m pc L S) X.here K.1 rfl (hb K.2.2.2.1 hd) hl hv k) r
theorem Go.iloadN (K : Cx0 bytes maxL ret mn p meth c) (hq : pc + 1 = q) {k : Fin 4} {v : Int32} (hd : decode bytes pc = .ok (.iload_n k, 1)) (hl : L[k.val]? = some (.val (.int v))) (r : Go p l e R s m args below meth c Z own cl xs0 n0 kc ks Q xs h cells slots (mkF m q L (.int v :: S))) : Go p l e R s m args below meth c Z own cl xs0 n0 kc ks Q xs h cells slots (mkF m pc L S) := Go.of_step K (fun s' K T locs X _ t k => by subst hq; exact XS.iloadN (g := mkF m pc L S) X.here K.1 rfl (hb K.2.2.2.1 hd) hl k) r
theorem Go.iload (K : Cx0 bytes maxL ret mn p meth c) (hq : pc + 2 = q) {k : Nat} {v : Int32} (hd : decode bytes pc = .ok (.iload k, 2)) (hl : L[k]? = some (.val (.int v))) (r : Go p l e R s m args below meth c Z own cl xs0 n0 kc ks Q xs h cells slots (mkF m q L (.int v :: S))) : Go p l e R s m args below meth c Z own cl xs0 n0 kc ks Q xs h cells slots (mkF m pc L S) := Go.of_step K (fun s' K T locs X _ t k => by subst hq; exact XS.iload (g := mkF m pc L S) X.here K.1 rfl (hb K.2.2.2.1 hd) hl k) r
theorem Go.lloadN (K : Cx0 bytes maxL ret mn p meth c) (hq : pc + 1 = q) {k : Fin 4} {v : Int64} (hd : decode bytes pc = .ok (.lload_n k, 1)) (hl : L[k.val]? = some (.val (.long v))) (r : Go p l e R s m args below meth c Z own cl xs0 n0 kc ks Q xs h cells slots (mkF m q L (.long v :: S))) : Go p l e R s m args below meth c Z own cl xs0 n0 kc ks Q xs h cells slots (mkF m pc L S) := Go.of_step K (fun s' K T locs X _ t k => by subst hq; exact XS.lloadN (g := mkF m pc L S) X.here K.1 rfl (hb K.2.2.2.1 hd) hl k) r
theorem Go.lload (K : Cx0 bytes maxL ret mn p meth c) (hq : pc + 2 = q) {k : Nat} {v : Int64} (hd : decode bytes pc = .ok (.lload k, 2)) (hl : L[k]? = some (.val (.long v))) (r : Go p l e R s m args below meth c Z own cl xs0 n0 kc ks Q xs h cells slots (mkF m q L (.long v :: S))) : Go p l e R s m args below meth c Z own cl xs0 n0 kc ks Q xs h cells slots (mkF m pc L S) := Go.of_step K (fun s' K T locs X _ t k => by subst hq; exact XS.lload (g := mkF m pc L S) X.here K.1 rfl (hb K.2.2.2.1 hd) hl k) r
theorem Go.iconst (K : Cx0 bytes maxL ret mn p meth c) (hq : pc + 1 = q) {i : Int} {v : Int32} (hv : Int32.ofInt i = v) (hd : decode bytes pc = .ok (.iconst i, 1)) (r : Go p l e R s m args below meth c Z own cl xs0 n0 kc ks Q xs h cells slots (mkF m q L (.int v :: S))) : Go p l e R s m args below meth c Z own cl xs0 n0 kc ks Q xs h cells slots (mkF m pc L S) := Go.of_step K (fun s' K T locs X _ t k => by subst hq hv; exact XS.iconst (g := mkF m pc L S) X.here K.1 rfl (hb K.2.2.2.1 hd) k) r
theorem Go.bipush (K : Cx0 bytes maxL ret mn p meth c) (hq : pc + 2 = q) {i : Int} {v : Int32} (hv : (Int8.ofInt i).toInt32 = v) (hd : decode bytes pc = .ok (.bipush i, 2)) (r : Go p l e R s m args below meth c Z own cl xs0 n0 kc ks Q xs h cells slots (mkF m q L (.int v :: S))) : Go p l e R s m args below meth c Z own cl xs0 n0 kc ks Q xs h cells slots (mkF m pc L S) := Go.of_step K (fun s' K T locs X _ t k => by subst hq hv; exact XS.bipush (g := mkF m pc L S) X.here K.1 rfl (hb K.2.2.2.1 hd) k) r
theorem Go.sipush (K : Cx0 bytes maxL ret mn p meth c) (hq : pc + 3 = q) {i : Int} {v : Int32} (hv : (Int16.ofInt i).toInt32 = v) (hd : decode bytes pc = .ok (.sipush i, 3)) (r : Go p l e R s m args below meth c Z own cl xs0 n0 kc ks Q xs h cells slots (mkF m q L (.int v :: S))) : Go p l e R s m args below meth c Z own cl xs0 n0 kc ks Q xs h cells slots (mkF m pc L S) := Go.of_step K (fun s' K T locs X _ t k => by subst hq hv; exact XS.sipush (g := mkF m pc L S) X.here K.1 rfl (hb K.2.2.2.1 hd) k) r
theorem Go.aconstNull (K : Cx0 bytes maxL ret mn p meth c) (hq : pc + 1 = q) (hd : decode bytes pc = .ok (.aconst_null, 1)) (r : Go p l e R s m args below meth c Z own cl xs0 n0 kc ks Q xs h cells slots (mkF m q L (.null :: S))) : Go p l e R s m args below meth c Z own cl xs0 n0 kc ks Q xs h cells slots (mkF m pc L S) := Go.of_step K (fun s' K T locs X _ t k => by subst hq; exact XS.aconstNull (g := mkF m pc L S) X.here K.1 rfl (hb K.2.2.2.1 hd) k) r
theorem Go.ldcInt (K : Cx0 bytes maxL ret mn p meth c) (hq : pc + 2 = q) {i : Nat} {v : Int32} (w : (Cond.constant own i v).before a0 Z = true) (hd : decode bytes pc = .ok (.ldc i, 2)) (r : Go p l e R s m args below meth c Z own cl xs0 n0 kc ks Q xs h cells slots (mkF m q L (.int v :: S))) : Go p l e R s m args below meth c Z own cl xs0 n0 kc ks Q xs h cells slots (mkF m pc L S) := Go.of_step K (fun s' K T locs X _ t k => by subst hq; exact X.ldcInt K.1 K.2.2.1 (mvT K.2.1 w) (g := mkF m pc L S) rfl (hb K.2.2.2.1 hd) _ k) r
theorem Go.ldc2Long (K : Cx0 bytes maxL ret mn p meth c) (hq : pc + 3 = q) {i : Nat} {v : Int64} (w : (Cond.constantLong own i v).before a0 Z = true) (hd : decode bytes pc = .ok (.ldc2_w i, 3)) (r : Go p l e R s m args below meth c Z own cl xs0 n0 kc ks Q xs h cells slots (mkF m q L (.long v :: S))) : Go p l e R s m args below meth c Z own cl xs0 n0 kc ks Q xs h cells slots (mkF m pc L S) := Go.of_step K (fun s' K T locs X _ t k => by subst hq; exact X.ldc2Long K.1 K.2.2.1 (mvT K.2.1 w) (g := mkF m pc L S) rfl (hb K.2.2.2.1 hd) _ k) r
theorem Go.iadd (K : Cx0 bytes maxL ret mn p meth c) (hq : pc + 1 = q) {x y : Int32} (hd : decode bytes pc = .ok (.iadd, 1)) (r : Go p l e R s m args below meth c Z own cl xs0 n0 kc ks Q xs h cells slots (mkF m q L (.int (x + y) :: S))) : Go p l e R s m args below meth c Z own cl xs0 n0 kc ks Q xs h cells slots (mkF m pc L (.int y :: .int x :: S)) := Go.of_step K (fun s' K T locs X _ t k => by subst hq; exact XS.iadd (g := mkF m pc L (.int y :: .int x :: S)) X.here K.1 rfl (hb K.2.2.2.1 hd) rfl k) r
theorem Go.isub (K : Cx0 bytes maxL ret mn p meth c) (hq : pc + 1 = q) {x y : Int32} (hd : decode bytes pc = .ok (.isub, 1)) (r : Go p l e R s m args below meth c Z own cl xs0 n0 kc ks Q xs h cells slots (mkF m q L (.int (x - y) :: S))) : Go p l e R s m args below meth c Z own cl xs0 n0 kc ks Q xs h cells slots (mkF m pc L (.int y :: .int x :: S)) := Go.of_step K (fun s' K T locs X _ t k => by subst hq; exact XS.isub (g := mkF m pc L (.int y :: .int x :: S)) X.here K.1 rfl (hb K.2.2.2.1 hd) rfl k) r
theorem Go.imul (K : Cx0 bytes maxL ret mn p meth c) (hq : pc + 1 = q) {x y : Int32} (hd : decode bytes pc = .ok (.imul, 1)) (r : Go p l e R s m args below meth c Z own cl xs0 n0 kc ks Q xs h cells slots (mkF m q L (.int (x * y) :: S))) : Go p l e R s m args below meth c Z own cl xs0 n0 kc ks Q xs h cells slots (mkF m pc L (.int y :: .int x :: S)) := Go.of_step K (fun s' K T locs X _ t k => by subst hq; exact XS.imul (g := mkF m pc L (.int y :: .int x :: S)) X.here K.1 rfl (hb K.2.2.2.1 hd) rfl k) r
theorem Go.iand (K : Cx0 bytes maxL ret mn p meth c) (hq : pc + 1 = q) {x y : Int32} (hd : decode bytes pc = .ok (.iand, 1)) (r : Go p l e R s m args below meth c Z own cl xs0 n0 kc ks Q xs h cells slots (mkF m q L (.int (x &&& y) :: S))) : Go p l e R s m args below meth c Z own cl xs0 n0 kc ks Q xs h cells slots (mkF m pc L (.int y :: .int x :: S)) := Go.of_step K (fun s' K T locs X _ t k => by subst hq; exact XS.iand (g := mkF m pc L (.int y :: .int x :: S)) X.here K.1 rfl (hb K.2.2.2.1 hd) rfl k) r
theorem Go.ior (K : Cx0 bytes maxL ret mn p meth c) (hq : pc + 1 = q) {x y : Int32} (hd : decode bytes pc = .ok (.ior, 1)) (r : Go p l e R s m args below meth c Z own cl xs0 n0 kc ks Q xs h cells slots (mkF m q L (.int (x ||| y) :: S))) : Go p l e R s m args below meth c Z own cl xs0 n0 kc ks Q xs h cells slots (mkF m pc L (.int y :: .int x :: S)) := Go.of_step K (fun s' K T locs X _ t k => by subst hq; exact XS.ior (g := mkF m pc L (.int y :: .int x :: S)) X.here K.1 rfl (hb K.2.2.2.1 hd) rfl k) r
theorem Go.ixor (K : Cx0 bytes maxL ret mn p meth c) (hq : pc + 1 = q) {x y : Int32} (hd : decode bytes pc = .ok (.ixor, 1)) (r : Go p l e R s m args below meth c Z own cl xs0 n0 kc ks Q xs h cells slots (mkF m q L (.int (x ^^^ y) :: S))) : Go p l e R s m args below meth c Z own cl xs0 n0 kc ks Q xs h cells slots (mkF m pc L (.int y :: .int x :: S)) := Go.of_step K (fun s' K T locs X _ t k => by subst hq; exact XS.ixor (g := mkF m pc L (.int y :: .int x :: S)) X.here K.1 rfl (hb K.2.2.2.1 hd) rfl k) r
theorem Go.ishl (K : Cx0 bytes maxL ret mn p meth c) (hq : pc + 1 = q) {x y : Int32} (hd : decode bytes pc = .ok (.ishl, 1)) (r : Go p l e R s m args below meth c Z own cl xs0 n0 kc ks Q xs h cells slots (mkF m q L (.int (x <<< (y &&& 31)) :: S))) : Go p l e R s m args below meth c Z own cl xs0 n0 kc ks Q xs h cells slots (mkF m pc L (.int y :: .int x :: S)) := Go.of_step K (fun s' K T locs X _ t k => by subst hq; exact XS.ishl (g := mkF m pc L (.int y :: .int x :: S)) X.here K.1 rfl (hb K.2.2.2.1 hd) rfl k) r
theorem Go.ishr (K : Cx0 bytes maxL ret mn p meth c) (hq : pc + 1 = q) {x y : Int32} (hd : decode bytes pc = .ok (.ishr, 1)) (r : Go p l e R s m args below meth c Z own cl xs0 n0 kc ks Q xs h cells slots (mkF m q L (.int (x >>> (y &&& 31)) :: S))) : Go p l e R s m args below meth c Z own cl xs0 n0 kc ks Q xs h cells slots (mkF m pc L (.int y :: .int x :: S)) := Go.of_step K (fun s' K T locs X _ t k => by subst hq; exact XS.ishr (g := mkF m pc L (.int y :: .int x :: S)) X.here K.1 rfl (hb K.2.2.2.1 hd) rfl k) r
theorem Go.iushr (K : Cx0 bytes maxL ret mn p meth c) (hq : pc + 1 = q) {x y : Int32} (hd : decode bytes pc = .ok (.iushr, 1)) (r : Go p l e R s m args below meth c Z own cl xs0 n0 kc ks Q xs h cells slots (mkF m q L (.int ((x.toUInt32 >>> (y &&& 31).toUInt32).toInt32) :: S))) : Go p l e R s m args below meth c Z own cl xs0 n0 kc ks Q xs h cells slots (mkF m pc L (.int y :: .int x :: S)) := Go.of_step K (fun s' K T locs X _ t k => by subst hq; exact XS.iushr (g := mkF m pc L (.int y :: .int x :: S)) X.here K.1 rfl (hb K.2.2.2.1 hd) rfl k) r
theorem Go.ladd (K : Cx0 bytes maxL ret mn p meth c) (hq : pc + 1 = q) {x y : Int64} (hd : decode bytes pc = .ok (.ladd, 1)) (r : Go p l e R s m args below meth c Z own cl xs0 n0 kc ks Q xs h cells slots (mkF m q L (.long (x + y) :: S))) : Go p l e R s m args below meth c Z own cl xs0 n0 kc ks Q xs h cells slots (mkF m pc L (.long y :: .long x :: S)) := Go.of_step K (fun s' K T locs X _ t k => by subst hq; exact XS.ladd (g := mkF m pc L (.long y :: .long x :: S)) X.here K.1 rfl (hb K.2.2.2.1 hd) rfl k) r
theorem Go.lsub (K : Cx0 bytes maxL ret mn p meth c) (hq : pc + 1 = q) {x y : Int64} (hd : decode bytes pc = .ok (.lsub, 1)) (r : Go p l e R s m args below meth c Z own cl xs0 n0 kc ks Q xs h cells slots (mkF m q L (.long (x - y) :: S))) : Go p l e R s m args below meth c Z own cl xs0 n0 kc ks Q xs h cells slots (mkF m pc L (.long y :: .long x :: S)) := Go.of_step K (fun s' K T locs X _ t k => by subst hq; exact XS.lsub (g := mkF m pc L (.long y :: .long x :: S)) X.here K.1 rfl (hb K.2.2.2.1 hd) rfl k) r
theorem Go.lmul (K : Cx0 bytes maxL ret mn p meth c) (hq : pc + 1 = q) {x y : Int64} (hd : decode bytes pc = .ok (.lmul, 1)) (r : Go p l e R s m args below meth c Z own cl xs0 n0 kc ks Q xs h cells slots (mkF m q L (.long (x * y) :: S))) : Go p l e R s m args below meth c Z own cl xs0 n0 kc ks Q xs h cells slots (mkF m pc L (.long y :: .long x :: S)) := Go.of_step K (fun s' K T locs X _ t k => by subst hq; exact XS.lmul (g := mkF m pc L (.long y :: .long x :: S)) X.here K.1 rfl (hb K.2.2.2.1 hd) rfl k) r
theorem Go.land (K : Cx0 bytes maxL ret mn p meth c) (hq : pc + 1 = q) {x y : Int64} (hd : decode bytes pc = .ok (.land, 1)) (r : Go p l e R s m args below meth c Z own cl xs0 n0 kc ks Q xs h cells slots (mkF m q L (.long (x &&& y) :: S))) : Go p l e R s m args below meth c Z own cl xs0 n0 kc ks Q xs h cells slots (mkF m pc L (.long y :: .long x :: S)) := Go.of_step K (fun s' K T locs X _ t k => by subst hq; exact XS.land (g := mkF m pc L (.long y :: .long x :: S)) X.here K.1 rfl (hb K.2.2.2.1 hd) rfl k) r
theorem Go.lor (K : Cx0 bytes maxL ret mn p meth c) (hq : pc + 1 = q) {x y : Int64} (hd : decode bytes pc = .ok (.lor, 1)) (r : Go p l e R s m args below meth c Z own cl xs0 n0 kc ks Q xs h cells slots (mkF m q L (.long (x ||| y) :: S))) : Go p l e R s m args below meth c Z own cl xs0 n0 kc ks Q xs h cells slots (mkF m pc L (.long y :: .long x :: S)) := Go.of_step K (fun s' K T locs X _ t k => by subst hq; exact XS.lor (g := mkF m pc L (.long y :: .long x :: S)) X.here K.1 rfl (hb K.2.2.2.1 hd) rfl k) r
theorem Go.lxor (K : Cx0 bytes maxL ret mn p meth c) (hq : pc + 1 = q) {x y : Int64} (hd : decode bytes pc = .ok (.lxor, 1)) (r : Go p l e R s m args below meth c Z own cl xs0 n0 kc ks Q xs h cells slots (mkF m q L (.long (x ^^^ y) :: S))) : Go p l e R s m args below meth c Z own cl xs0 n0 kc ks Q xs h cells slots (mkF m pc L (.long y :: .long x :: S)) := Go.of_step K (fun s' K T locs X _ t k => by subst hq; exact XS.lxor (g := mkF m pc L (.long y :: .long x :: S)) X.here K.1 rfl (hb K.2.2.2.1 hd) rfl k) r
theorem Go.lshl (K : Cx0 bytes maxL ret mn p meth c) (hq : pc + 1 = q) {x : Int64} {y : Int32} (hd : decode bytes pc = .ok (.lshl, 1)) (r : Go p l e R s m args below meth c Z own cl xs0 n0 kc ks Q xs h cells slots (mkF m q L (.long (x <<< (y &&& 0x3f).toInt64) :: S))) : Go p l e R s m args below meth c Z own cl xs0 n0 kc ks Q xs h cells slots (mkF m pc L (.int y :: .long x :: S)) := Go.of_step K (fun s' K T locs X _ t k => by subst hq; exact XS.lshl (g := mkF m pc L (.int y :: .long x :: S)) X.here K.1 rfl (hb K.2.2.2.1 hd) rfl k) r
theorem Go.lshr (K : Cx0 bytes maxL ret mn p meth c) (hq : pc + 1 = q) {x : Int64} {y : Int32} (hd : decode bytes pc = .ok (.lshr, 1)) (r : Go p l e R s m args below meth c Z own cl xs0 n0 kc ks Q xs h cells slots (mkF m q L (.long (x >>> (y &&& 0x3f).toInt64) :: S))) : Go p l e R s m args below meth c Z own cl xs0 n0 kc ks Q xs h cells slots (mkF m pc L (.int y :: .long x :: S)) := Go.of_step K (fun s' K T locs X _ t k => by subst hq; exact XS.lshr (g := mkF m pc L (.int y :: .long x :: S)) X.here K.1 rfl (hb K.2.2.2.1 hd) rfl k) r
theorem Go.lushr (K : Cx0 bytes maxL ret mn p meth c) (hq : pc + 1 = q) {x : Int64} {y : Int32} (hd : decode bytes pc = .ok (.lushr, 1)) (r : Go p l e R s m args below meth c Z own cl xs0 n0 kc ks Q xs h cells slots (mkF m q L (.long ((x.toUInt64 >>> (y &&& 0x3f).toInt64.toUInt64).toInt64) :: S))) : Go p l e R s m args below meth c Z own cl xs0 n0 kc ks Q xs h cells slots (mkF m pc L (.int y :: .long x :: S)) := Go.of_step K (fun s' K T locs X _ t k => by subst hq; exact XS.lushr (g := mkF m pc L (.int y :: .long x :: S)) X.here K.1 rfl (hb K.2.2.2.1 hd) rfl k) r
theorem Go.lcmp (K : Cx0 bytes maxL ret mn p meth c) (hq : pc + 1 = q) {x y : Int64} (hd : decode bytes pc = .ok (.lcmp, 1)) (r : Go p l e R s m args below meth c Z own cl xs0 n0 kc ks Q xs h cells slots (mkF m q L (.int (lcmpW x y) :: S))) : Go p l e R s m args below meth c Z own cl xs0 n0 kc ks Q xs h cells slots (mkF m pc L (.long y :: .long x :: S)) := Go.of_step K (fun s' K T locs X _ t k => by subst hq; exact XS.lcmp (g := mkF m pc L (.long y :: .long x :: S)) X.here K.1 rfl (hb K.2.2.2.1 hd) rfl k) r
theorem Go.ineg (K : Cx0 bytes maxL ret mn p meth c) (hq : pc + 1 = q) {x : Int32} (hd : decode bytes pc = .ok (.ineg, 1)) (r : Go p l e R s m args below meth c Z own cl xs0 n0 kc ks Q xs h cells slots (mkF m q L (.int (-x) :: S))) : Go p l e R s m args below meth c Z own cl xs0 n0 kc ks Q xs h cells slots (mkF m pc L (.int x :: S)) := Go.of_step K (fun s' K T locs X _ t k => by subst hq; exact XS.ineg (g := mkF m pc L (.int x :: S)) X.here K.1 rfl (hb K.2.2.2.1 hd) rfl k) r
theorem Go.i2l (K : Cx0 bytes maxL ret mn p meth c) (hq : pc + 1 = q) {x : Int32} (hd : decode bytes pc = .ok (.i2l, 1)) (r : Go p l e R s m args below meth c Z own cl xs0 n0 kc ks Q xs h cells slots (mkF m q L (.long x.toInt64 :: S))) : Go p l e R s m args below meth c Z own cl xs0 n0 kc ks Q xs h cells slots (mkF m pc L (.int x :: S)) := Go.of_step K (fun s' K T locs X _ t k => by subst hq; exact XS.i2l (g := mkF m pc L (.int x :: S)) X.here K.1 rfl (hb K.2.2.2.1 hd) rfl k) r
theorem Go.l2i (K : Cx0 bytes maxL ret mn p meth c) (hq : pc + 1 = q) {x : Int64} (hd : decode bytes pc = .ok (.l2i, 1)) (r : Go p l e R s m args below meth c Z own cl xs0 n0 kc ks Q xs h cells slots (mkF m q L (.int x.toInt32 :: S))) : Go p l e R s m args below meth c Z own cl xs0 n0 kc ks Q xs h cells slots (mkF m pc L (.long x :: S)) := Go.of_step K (fun s' K T locs X _ t k => by subst hq; exact XS.l2i (g := mkF m pc L (.long x :: S)) X.here K.1 rfl (hb K.2.2.2.1 hd) rfl k) r
theorem Go.i2b (K : Cx0 bytes maxL ret mn p meth c) (hq : pc + 1 = q) {x : Int32} (hd : decode bytes pc = .ok (.i2b, 1)) (r : Go p l e R s m args below meth c Z own cl xs0 n0 kc ks Q xs h cells slots (mkF m q L (.int x.toInt8.toInt32 :: S))) : Go p l e R s m args below meth c Z own cl xs0 n0 kc ks Q xs h cells slots (mkF m pc L (.int x :: S)) := Go.of_step K (fun s' K T locs X _ t k => by subst hq; exact XS.i2b (g := mkF m pc L (.int x :: S)) X.here K.1 rfl (hb K.2.2.2.1 hd) rfl k) r
theorem Go.i2s (K : Cx0 bytes maxL ret mn p meth c) (hq : pc + 1 = q) {x : Int32} (hd : decode bytes pc = .ok (.i2s, 1)) (r : Go p l e R s m args below meth c Z own cl xs0 n0 kc ks Q xs h cells slots (mkF m q L (.int x.toInt16.toInt32 :: S))) : Go p l e R s m args below meth c Z own cl xs0 n0 kc ks Q xs h cells slots (mkF m pc L (.int x :: S)) := Go.of_step K (fun s' K T locs X _ t k => by subst hq; exact XS.i2s (g := mkF m pc L (.int x :: S)) X.here K.1 rfl (hb K.2.2.2.1 hd) rfl k) r
theorem Go.i2c (K : Cx0 bytes maxL ret mn p meth c) (hq : pc + 1 = q) {x : Int32} (hd : decode bytes pc = .ok (.i2c, 1)) (r : Go p l e R s m args below meth c Z own cl xs0 n0 kc ks Q xs h cells slots (mkF m q L (.int x.toUInt32.toUInt16.toUInt32.toInt32 :: S))) : Go p l e R s m args below meth c Z own cl xs0 n0 kc ks Q xs h cells slots (mkF m pc L (.int x :: S)) := Go.of_step K (fun s' K T locs X _ t k => by subst hq; exact XS.i2c (g := mkF m pc L (.int x :: S)) X.here K.1 rfl (hb K.2.2.2.1 hd) rfl k) r
theorem Go.irem (K : Cx0 bytes maxL ret mn p meth c) (hq : pc + 1 = q) {x y : Int32} (hd : decode bytes pc = .ok (.irem, 1)) (hy : y ≠ 0) (r : Go p l e R s m args below meth c Z own cl xs0 n0 kc ks Q xs h cells slots (mkF m q L (.int (x % y) :: S))) : Go p l e R s m args below meth c Z own cl xs0 n0 kc ks Q xs h cells slots (mkF m pc L (.int y :: .int x :: S)) := Go.of_step K (fun s' K T locs X _ t k => by subst hq; exact iremM (g := mkF m pc L (.int y :: .int x :: S)) X K.1 rfl (hb K.2.2.2.1 hd) rfl hy k) r
theorem Go.idiv (K : Cx0 bytes maxL ret mn p meth c) (hq : pc + 1 = q) {x y : Int32} (hd : decode bytes pc = .ok (.idiv, 1)) (hy : y ≠ 0) (r : Go p l e R s m args below meth c Z own cl xs0 n0 kc ks Q xs h cells slots (mkF m q L (.int (x / y) :: S))) : Go p l e R s m args below meth c Z own cl xs0 n0 kc ks Q xs h cells slots (mkF m pc L (.int y :: .int x :: S)) := Go.of_step K (fun s' K T locs X _ t k => by subst hq; exact XS.idiv (g := mkF m pc L (.int y :: .int x :: S)) X.here K.1 rfl (hb K.2.2.2.1 hd) rfl hy k) r
theorem Go.dup (K : Cx0 bytes maxL ret mn p meth c) (hq : pc + 1 = q) {x : Value} (hd : decode bytes pc = .ok (.dup, 1)) (hc : x.category = 1) (r : Go p l e R s m args below meth c Z own cl xs0 n0 kc ks Q xs h cells slots (mkF m q L (x :: x :: S))) : Go p l e R s m args below meth c Z own cl xs0 n0 kc ks Q xs h cells slots (mkF m pc L (x :: S)) := Go.of_step K (fun s' K T locs X _ t k => by subst hq; exact XS.dup (g := mkF m pc L (x :: S)) X.here K.1 rfl (hb K.2.2.2.1 hd) rfl hc k) r
theorem Go.dupX1 (K : Cx0 bytes maxL ret mn p meth c) (hq : pc + 1 = q) {x y : Value} (hd : decode bytes pc = .ok (.dup_x1, 1)) (hc : x.category = 1) (hc' : y.category = 1) (r : Go p l e R s m args below meth c Z own cl xs0 n0 kc ks Q xs h cells slots (mkF m q L (x :: y :: x :: S))) : Go p l e R s m args below meth c Z own cl xs0 n0 kc ks Q xs h cells slots (mkF m pc L (x :: y :: S)) := Go.of_step K (fun s' K T locs X _ t k => by subst hq; exact XS.dupX1 (g := mkF m pc L (x :: y :: S)) X.here K.1 rfl (hb K.2.2.2.1 hd) rfl hc hc' k) r
theorem Go.pop (K : Cx0 bytes maxL ret mn p meth c) (hq : pc + 1 = q) {x : Value} (hd : decode bytes pc = .ok (.pop, 1)) (hc : x.category = 1) (r : Go p l e R s m args below meth c Z own cl xs0 n0 kc ks Q xs h cells slots (mkF m q L S)) : Go p l e R s m args below meth c Z own cl xs0 n0 kc ks Q xs h cells slots (mkF m pc L (x :: S)) := Go.of_step K (fun s' K T locs X _ t k => by subst hq; exact XS.pop (g := mkF m pc L (x :: S)) X.here K.1 rfl (hb K.2.2.2.1 hd) rfl hc k) r
theorem Go.istoreN (K : Cx0 bytes maxL ret mn p meth c) (hq : pc + 1 = q) {k : Fin 4} {x : Int32} {L' : Array Slot} (hd : decode bytes pc = .ok (.istore_n k, 1)) (hl : storeLocals L k.val (.int x) = some L') (r : Go p l e R s m args below meth c Z own cl xs0 n0 kc ks Q xs h cells slots (mkF m q L' S)) : Go p l e R s m args below meth c Z own cl xs0 n0 kc ks Q xs h cells slots (mkF m pc L (.int x :: S)) := Go.of_step K (fun s' K T locs X _ t k => by subst hq; exact XS.istoreN (g := mkF m pc L (.int x :: S)) X.here K.1 rfl (hb K.2.2.2.1 hd) rfl hl k) r
theorem Go.istore (K : Cx0 bytes maxL ret mn p meth c) (hq : pc + 2 = q) {k : Nat} {x : Int32} {L' : Array Slot} (hd : decode bytes pc = .ok (.istore k, 2)) (hl : storeLocals L k (.int x) = some L') (r : Go p l e R s m args below meth c Z own cl xs0 n0 kc ks Q xs h cells slots (mkF m q L' S)) : Go p l e R s m args below meth c Z own cl xs0 n0 kc ks Q xs h cells slots (mkF m pc L (.int x :: S)) := Go.of_step K (fun s' K T locs X _ t k => by subst hq; exact XS.istore (g := mkF m pc L (.int x :: S)) X.here K.1 rfl (hb K.2.2.2.1 hd) rfl hl k) r
theorem Go.lstoreN (K : Cx0 bytes maxL ret mn p meth c) (hq : pc + 1 = q) {k : Fin 4} {x : Int64} {L' : Array Slot} (hd : decode bytes pc = .ok (.lstore_n k, 1)) (hl : storeLocals L k.val (.long x) = some L') (r : Go p l e R s m args below meth c Z own cl xs0 n0 kc ks Q xs h cells slots (mkF m q L' S)) : Go p l e R s m args below meth c Z own cl xs0 n0 kc ks Q xs h cells slots (mkF m pc L (.long x :: S)) := Go.of_step K (fun s' K T locs X _ t k => by subst hq; exact XS.lstoreN (g := mkF m pc L (.long x :: S)) X.here K.1 rfl (hb K.2.2.2.1 hd) rfl hl k) r
theorem Go.lstore (K : Cx0 bytes maxL ret mn p meth c) (hq : pc + 2 = q) {k : Nat} {x : Int64} {L' : Array Slot} (hd : decode bytes pc = .ok (.lstore k, 2)) (hl : storeLocals L k (.long x) = some L') (r : Go p l e R s m args below meth c Z own cl xs0 n0 kc ks Q xs h cells slots (mkF m q L' S)) : Go p l e R s m args below meth c Z own cl xs0 n0 kc ks Q xs h cells slots (mkF m pc L (.long x :: S)) := Go.of_step K (fun s' K T locs X _ t k => by subst hq; exact XS.lstore (g := mkF m pc L (.long x :: S)) X.here K.1 rfl (hb K.2.2.2.1 hd) rfl hl k) r
theorem Go.astoreN (K : Cx0 bytes maxL ret mn p meth c) (hq : pc + 1 = q) {k : Fin 4} {x : Value} {L' : Array Slot} (hd : decode bytes pc = .ok (.astore_n k, 1)) (hv : x.isRef = true) (hl : storeLocals L k.val x = some L') (r : Go p l e R s m args below meth c Z own cl xs0 n0 kc ks Q xs h cells slots (mkF m q L' S)) : Go p l e R s m args below meth c Z own cl xs0 n0 kc ks Q xs h cells slots (mkF m pc L (x :: S)) := Go.of_step K (fun s' K T locs X _ t k => by subst hq; exact XS.astoreN (g := mkF m pc L (x :: S)) X.here K.1 rfl (hb K.2.2.2.1 hd) rfl hv hl k) r
theorem Go.astore (K : Cx0 bytes maxL ret mn p meth c) (hq : pc + 2 = q) {k : Nat} {x : Value} {L' : Array Slot} (hd : decode bytes pc = .ok (.astore k, 2)) (hv : x.isRef = true) (hl : storeLocals L k x = some L') (r : Go p l e R s m args below meth c Z own cl xs0 n0 kc ks Q xs h cells slots (mkF m q L' S)) : Go p l e R s m args below meth c Z own cl xs0 n0 kc ks Q xs h cells slots (mkF m pc L (x :: S)) := Go.of_step K (fun s' K T locs X _ t k => by subst hq; exact XS.astore (g := mkF m pc L (x :: S)) X.here K.1 rfl (hb K.2.2.2.1 hd) rfl hv hl k) r
theorem Go.iinc (K : Cx0 bytes maxL ret mn p meth c) (hq : pc + 3 = q) {k : Nat} {cst : Int} {x y : Int32} {L' : Array Slot} (hy : Int32.ofInt cst = y) (hd : decode bytes pc = .ok (.iinc k cst, 3)) (hl0 : L[k]? = some (.val (.int x))) (hl : storeLocals L k (.int (x + y)) = some L') (r : Go p l e R s m args below meth c Z own cl xs0 n0 kc ks Q xs h cells slots (mkF m q L' S)) : Go p l e R s m args below meth c Z own cl xs0 n0 kc ks Q xs h cells slots (mkF m pc L S) := Go.of_step K (fun s' K T locs X _ t k => by subst hq hy; exact XS.iinc (g := mkF m pc L S) X.here K.1 rfl (hb K.2.2.2.1 hd) hl0 hl k) r
theorem Go.goto (K : Cx0 bytes maxL ret mn p meth c) {o : Int} (ho : 0 ≤ (pc : Int) + o) (hq : ((pc : Int) + o).toNat = q) (hd : decode bytes pc = .ok (.goto o, 3)) (r : Go p l e R s m args below meth c Z own cl xs0 n0 kc ks Q xs h cells slots (mkF m q L S)) : Go p l e R s m args below meth c Z own cl xs0 n0 kc ks Q xs h cells slots (mkF m pc L S) := Go.of_step K (fun s' K T locs X _ t k => XS.goto (g := mkF m pc L S) X.here K.1 rfl (pc0 := pc) (pc' := q) rfl (hb K.2.2.2.1 hd) ho hq k) r
theorem Go.ifY (K : Cx0 bytes maxL ret mn p meth c) {o : Int} {cd : ClassFile.Cond} {x : Int32} (ho : 0 ≤ (pc : Int) + o) (hq : ((pc : Int) + o).toNat = q) (hd : decode bytes pc = .ok (.ifCond cd o, 3)) (hc : cdP cd x 0) (r : Go p l e R s m args below meth c Z own cl xs0 n0 kc ks Q xs h cells slots (mkF m q L S)) : Go p l e R s m args below meth c Z own cl xs0 n0 kc ks Q xs h cells slots (mkF m pc L (.int x :: S)) := Go.of_step K (fun s' K T locs X _ t k => XS.ifYes (g := mkF m pc L (.int x :: S)) X.here K.1 rfl (pc0 := pc) (pc' := q) rfl (hb K.2.2.2.1 hd) rfl ((if0 _ _).trans (cd_yes hc)) ho hq k) r
theorem Go.ifN (K : Cx0 bytes maxL ret mn p meth c) {o : Int} {cd : ClassFile.Cond} {x : Int32} (hq : pc + 3 = q) (hd : decode bytes pc = .ok (.ifCond cd o, 3)) (hc : cdN cd x 0) (r : Go p l e R s m args below meth c Z own cl xs0 n0 kc ks Q xs h cells slots (mkF m q L S)) : Go p l e R s m args below meth c Z own cl xs0 n0 kc ks Q xs h cells slots (mkF m pc L (.int x :: S)) := Go.of_step K (fun s' K T locs X _ t k => by subst hq; exact XS.ifNo (g := mkF m pc L (.int x :: S)) X.here K.1 rfl (hb K.2.2.2.1 hd) rfl ((if0 _ _).trans (cd_no hc)) k) r
theorem Go.icmpY (K : Cx0 bytes maxL ret mn p meth c) {o : Int} {cd : ClassFile.Cond} {x y : Int32} (ho : 0 ≤ (pc : Int) + o) (hq : ((pc : Int) + o).toNat = q) (hd : decode bytes pc = .ok (.if_icmp cd o, 3)) (hc : cdP cd x y) (r : Go p l e R s m args below meth c Z own cl xs0 n0 kc ks Q xs h cells slots (mkF m q L S)) : Go p l e R s m args below meth c Z own cl xs0 n0 kc ks Q xs h cells slots (mkF m pc L (.int y :: .int x :: S)) := Go.of_step K (fun s' K T locs X _ t k => XS.icmpYes (g := mkF m pc L (.int y :: .int x :: S)) X.here K.1 rfl (pc0 := pc) (pc' := q) rfl (hb K.2.2.2.1 hd) rfl (cd_yes hc) ho hq k) r
theorem Go.icmpN (K : Cx0 bytes maxL ret mn p meth c) {o : Int} {cd : ClassFile.Cond} {x y : Int32} (hq : pc + 3 = q) (hd : decode bytes pc = .ok (.if_icmp cd o, 3)) (hc : cdN cd x y) (r : Go p l e R s m args below meth c Z own cl xs0 n0 kc ks Q xs h cells slots (mkF m q L S)) : Go p l e R s m args below meth c Z own cl xs0 n0 kc ks Q xs h cells slots (mkF m pc L (.int y :: .int x :: S)) := Go.of_step K (fun s' K T locs X _ t k => by subst hq; exact XS.icmpNo (g := mkF m pc L (.int y :: .int x :: S)) X.here K.1 rfl (hb K.2.2.2.1 hd) rfl (cd_no hc) k) r
theorem Go.ifc (K : Cx0 bytes maxL ret mn p meth c) {o : Int} {cd : ClassFile.Cond} {x : Int32} {q' : Nat} (ho : 0 ≤ (pc : Int) + o) (hq : ((pc : Int) + o).toNat = q) (hq' : pc + 3 = q') (hd : decode bytes pc = .ok (.ifCond cd o, 3)) (r : cdP cd x 0 → Go p l e R s m args below meth c Z own cl xs0 n0 kc ks Q xs h cells slots (mkF m q L S)) (r' : cdN cd x 0 → Go p l e R s m args below meth c Z own cl xs0 n0 kc ks Q xs h cells slots (mkF m q' L S)) : Go p l e R s m args below meth c Z own cl xs0 n0 kc ks Q xs h cells slots (mkF m pc L (.int x :: S)) :=
  (cd_em cd x 0).elim (fun hc => Go.ifY K ho hq hd hc (r hc)) (fun hc => Go.ifN K hq' hd hc (r' hc))
theorem Go.icmp (K : Cx0 bytes maxL ret mn p meth c) {o : Int} {cd : ClassFile.Cond} {x y : Int32} {q' : Nat} (ho : 0 ≤ (pc : Int) + o) (hq : ((pc : Int) + o).toNat = q) (hq' : pc + 3 = q') (hd : decode bytes pc = .ok (.if_icmp cd o, 3)) (r : cdP cd x y → Go p l e R s m args below meth c Z own cl xs0 n0 kc ks Q xs h cells slots (mkF m q L S)) (r' : cdN cd x y → Go p l e R s m args below meth c Z own cl xs0 n0 kc ks Q xs h cells slots (mkF m q' L S)) : Go p l e R s m args below meth c Z own cl xs0 n0 kc ks Q xs h cells slots (mkF m pc L (.int y :: .int x :: S)) :=
  (cd_em cd x y).elim (fun hc => Go.icmpY K ho hq hd hc (r hc)) (fun hc => Go.icmpN K hq' hd hc (r' hc))
theorem Go.ifnullY (K : Cx0 bytes maxL ret mn p meth c) {o : Int} (ho : 0 ≤ (pc : Int) + o) (hq : ((pc : Int) + o).toNat = q) (hd : decode bytes pc = .ok (.ifnull o, 3)) (r : Go p l e R s m args below meth c Z own cl xs0 n0 kc ks Q xs h cells slots (mkF m q L S)) : Go p l e R s m args below meth c Z own cl xs0 n0 kc ks Q xs h cells slots (mkF m pc L (.null :: S)) := Go.of_step K (fun s' K T locs X _ t k => XS.ifnullYes (g := mkF m pc L (.null :: S)) X.here K.1 rfl (pc0 := pc) (pc' := q) rfl (hb K.2.2.2.1 hd) rfl ho hq k) r
theorem Go.ifnullN (K : Cx0 bytes maxL ret mn p meth c) {o : Int} {b : Addr} (hq : pc + 3 = q) (hd : decode bytes pc = .ok (.ifnull o, 3)) (r : Go p l e R s m args below meth c Z own cl xs0 n0 kc ks Q xs h cells slots (mkF m q L S)) : Go p l e R s m args below meth c Z own cl xs0 n0 kc ks Q xs h cells slots (mkF m pc L (.ref b :: S)) := Go.of_step K (fun s' K T locs X _ t k => by subst hq; exact XS.ifnullNo (g := mkF m pc L (.ref b :: S)) X.here K.1 rfl (hb K.2.2.2.1 hd) rfl k) r
theorem Go.ifnonnullY (K : Cx0 bytes maxL ret mn p meth c) {o : Int} {b : Addr} (ho : 0 ≤ (pc : Int) + o) (hq : ((pc : Int) + o).toNat = q) (hd : decode bytes pc = .ok (.ifnonnull o, 3)) (r : Go p l e R s m args below meth c Z own cl xs0 n0 kc ks Q xs h cells slots (mkF m q L S)) : Go p l e R s m args below meth c Z own cl xs0 n0 kc ks Q xs h cells slots (mkF m pc L (.ref b :: S)) := Go.of_step K (fun s' K T locs X _ t k => XS.ifnonnullYes (g := mkF m pc L (.ref b :: S)) X.here K.1 rfl (pc0 := pc) (pc' := q) rfl (hb K.2.2.2.1 hd) rfl ho hq k) r
theorem Go.ifnonnullN (K : Cx0 bytes maxL ret mn p meth c) {o : Int} (hq : pc + 3 = q) (hd : decode bytes pc = .ok (.ifnonnull o, 3)) (r : Go p l e R s m args below meth c Z own cl xs0 n0 kc ks Q xs h cells slots (mkF m q L S)) : Go p l e R s m args below meth c Z own cl xs0 n0 kc ks Q xs h cells slots (mkF m pc L (.null :: S)) := Go.of_step K (fun s' K T locs X _ t k => by subst hq; exact XS.ifnonnullNo (g := mkF m pc L (.null :: S)) X.here K.1 rfl (hb K.2.2.2.1 hd) rfl k) r
theorem Go.acmp (K : Cx0 bytes maxL ret mn p meth c) {o : Int} {cd : ACond} {x y : Value} (h1 : x.isRef = true) (h2 : y.isRef = true) {same : Bool} (hs : decide (x = y) = same) (ho : 0 ≤ (pc : Int) + o) (hq : q = if acV cd same = true then ((pc : Int) + o).toNat else pc + 3) (hd : decode bytes pc = .ok (.if_acmp cd o, 3)) (r : Go p l e R s m args below meth c Z own cl xs0 n0 kc ks Q xs h cells slots (mkF m q L S)) : Go p l e R s m args below meth c Z own cl xs0 n0 kc ks Q xs h cells slots (mkF m pc L (y :: x :: S)) := Go.of_step K (fun s' K T locs X _ t k => Jvm.RoadKit.acmp (g := mkF m pc L (y :: x :: S)) X K.1 rfl h1 h2 (pc0 := pc) (pc' := q) rfl (hb K.2.2.2.1 hd) rfl hs ho hq k) r
theorem Go.getF (K : Cx0 bytes maxL ret mn p meth c) (hq : pc + 3 = q) {R0 O n d : String} {i : Nat} (w : (Cond.fieldLink own i R0 n d).before a0 Z = true) (via : Via Z R0 O n d) {a : Addr} {v : Value} (F : Fld Z h a O n d v) (hd : decode bytes pc = .ok (.getfield i, 3)) (r : Go p l e R s m args below meth c Z own cl xs0 n0 kc ks Q xs h cells slots (mkF m q L (v :: S))) : Go p l e R s m args below meth c Z own cl xs0 n0 kc ks Q xs h cells slots (mkF m pc L (.ref a :: S)) :=
  Go.of_warm K (fun s' K T locs X eT => by subst hq; exact Jvm.RoadKit.getF X K.1 K.2.1 K.2.2.1 (host := "") (Or.inl w) via eT F (g := mkF m pc L (.ref a :: S)) rfl rfl (hb K.2.2.2.1 hd)) r
theorem Go.getS (K : Cx0 bytes maxL ret mn p meth c) (hq : pc + 3 = q) {R0 O n d : String} {i : Nat} (w : (Cond.fieldLink own i R0 n d).before a0 Z = true) (via : Via Z R0 O n d) {v : Value} (F : Sta Z h O n d v) (hd : decode bytes pc = .ok (.getstatic i, 3)) (r : Go p l e R s m args below meth c Z own cl xs0 n0 kc ks Q xs h cells slots (mkF m q L (v :: S))) : Go p l e R s m args below meth c Z own cl xs0 n0 kc ks Q xs h cells slots (mkF m pc L S) :=
  Go.of_warm K (fun s' K T locs X eT => by subst hq; exact Jvm.RoadKit.getS (host := "") X K.1 K.2.1 K.2.2.1 w via eT F (g := mkF m pc L S) rfl (hb K.2.2.2.1 hd)) r
theorem Go.castY (K : Cx0 bytes maxL ret mn p meth c) (hq : pc + 3 = q) {C : String} {i : Nat} (w : (Cond.classLink own i C).before a0 Z = true) {a : Addr} (F : Ins Z h a C true) (hd : decode bytes pc = .ok (.checkcast i, 3)) (r : Go p l e R s m args below meth c Z own cl xs0 n0 kc ks Q xs h cells slots (mkF m q L (.ref a :: S))) : Go p l e R s m args below meth c Z own cl xs0 n0 kc ks Q xs h cells slots (mkF m pc L (.ref a :: S)) :=
  Go.of_warm K (fun s' K T locs X eT => by subst hq; exact Jvm.RoadKit.castY X K.1 K.2.1 K.2.2.1 w eT F (g := mkF m pc L (.ref a :: S)) rfl rfl (hb K.2.2.2.1 hd)) r
theorem Go.instY (K : Cx0 bytes maxL ret mn p meth c) (hq : pc + 3 = q) {C : String} {i : Nat} (w : (Cond.classLink own i C).before a0 Z = true) {a : Addr} (F : Ins Z h a C true) (hd : decode bytes pc = .ok (.instanceof i, 3)) (r : Go p l e R s m args below meth c Z own cl xs0 n0 kc ks Q xs h cells slots (mkF m q L (.int 1 :: S))) : Go p l e R s m args below meth c Z own cl xs0 n0 kc ks Q xs h cells slots (mkF m pc L (.ref a :: S)) :=
  Go.of_warm K (fun s' K T locs X eT => by subst hq; exact Jvm.RoadKit.instY X K.1 K.2.1 K.2.2.1 w eT F (g := mkF m pc L (.ref a :: S)) rfl rfl (hb K.2.2.2.1 hd)) r
theorem Go.instNo (K : Cx0 bytes maxL ret mn p meth c) (hq : pc + 3 = q) {C D : String} {i : Nat} (w : (Cond.classLink own i D).before a0 Z = true) {a : Addr} (E : Exa Z h a C) (F : ∃ c t, Z.vm.findClass C = some c ∧ Z.vm.findClass D = some t ∧ Z.vm.assignable c t = false) (hd : decode bytes pc = .ok (.instanceof i, 3)) (r : Go p l e R s m args below meth c Z own cl xs0 n0 kc ks Q xs h cells slots (mkF m q L (.int 0 :: S))) : Go p l e R s m args below meth c Z own cl xs0 n0 kc ks Q xs h cells slots (mkF m pc L (.ref a :: S)) :=
  Go.of_warm K (fun s' K T locs X eT => by subst hq; exact Jvm.RoadKit.instNo X K.1 K.2.1 K.2.2.1 w eT E F (g := mkF m pc L (.ref a :: S)) rfl rfl (hb K.2.2.2.1 hd)) r
theorem Go.instNull (K : Cx0 bytes maxL ret mn p meth c) (hq : pc + 3 = q) {i : Nat} (hd : decode bytes pc = .ok (.instanceof i, 3)) (r : Go p l e R s m args below meth c Z own cl xs0 n0 kc ks Q xs h cells slots (mkF m q L (.int 0 :: S))) : Go p l e R s m args below meth c Z own cl xs0 n0 kc ks Q xs h cells slots (mkF m pc L (.null :: S)) :=
  Go.of_step K (fun s' K T locs X _ t k => by subst hq; exact X.instanceofNull K.1 (g := mkF m pc L (.null :: S)) rfl rfl (hb K.2.2.2.1 hd) _ k) r
theorem Go.castNull (K : Cx0 bytes maxL ret mn p meth c) (hq : pc + 3 = q) {i : Nat} (hd : decode bytes pc = .ok (.checkcast i, 3)) (r : Go p l e R s m args below meth c Z own cl xs0 n0 kc ks Q xs h cells slots (mkF m q L (.null :: S))) : Go p l e R s m args below meth c Z own cl xs0 n0 kc ks Q xs h cells slots (mkF m pc L (.null :: S)) :=
  Go.of_step K (fun s' K T locs X _ t k => by subst hq; exact X.checkcastNull K.1 (g := mkF m pc L (.null :: S)) rfl rfl (hb K.2.2.2.1 hd) _ k) r
theorem Go.caload (K : Cx0 bytes maxL ret mn p meth c) (hq : pc + 1 = q) {a : Addr} {k : ClassId} {z j : Int32} {vs : List Value} {dv v : Value} (A : Arv Z h a k .char z vs dv) (hd : decode bytes pc = .ok (.caload, 1)) (hj : ¬ j < 0 ∧ j < z) (hv : vs.getD j.toNatClampNeg dv = v) (r : Go p l e R s m args below meth c Z own cl xs0 n0 kc ks Q xs h cells slots (mkF m q L (v :: S))) : Go p l e R s m args below meth c Z own cl xs0 n0 kc ks Q xs h cells slots (mkF m pc L (.int j :: .ref a :: S)) :=
  Go.of_step K (fun s' K T locs X eT t kk => by
    subst hq
    obtain ⟨cl, A1, A2, A3, A4, A5, A6⟩ := A
    exact X.caload K.1 (by rw [eT]; exact A1.1) (State.isArrayOf_alike K.2.1.alike A1.2.1) A1.2.2 (inb_of A3 hj) (A5.at (inb_of A3 hj) hv) (g := mkF m pc L (.int j :: .ref a :: S)) rfl rfl (hb K.2.2.2.1 hd) _ kk) r
theorem Go.baload (K : Cx0 bytes maxL ret mn p meth c) (hq : pc + 1 = q) {a : Addr} {k : ClassId} {z j : Int32} {vs : List Value} {dv v : Value} (A : Arv Z h a k .byte z vs dv) (hd : decode bytes pc = .ok (.baload, 1)) (hj : ¬ j < 0 ∧ j < z) (hv : vs.getD j.toNatClampNeg dv = v) (r : Go p l e R s m args below meth c Z own cl xs0 n0 kc ks Q xs h cells slots (mkF m q L (v :: S))) : Go p l e R s m args below meth c Z own cl xs0 n0 kc ks Q xs h cells slots (mkF m pc L (.int j :: .ref a :: S)) :=
  Go.of_step K (fun s' K T locs X eT t kk => by
    subst hq
    obtain ⟨cl, A1, A2, A3, A4, A5, A6⟩ := A
    exact X.baloadBytes K.1 (by rw [eT]; exact A1.1) (State.isArrayOf_alike K.2.1.alike A1.2.1) A1.2.2 (inb_of A3 hj) (A5.at (inb_of A3 hj) hv) (g := mkF m pc L (.int j :: .ref a :: S)) rfl rfl (hb K.2.2.2.1 hd) _ kk) r
theorem Go.aaload (K : Cx0 bytes maxL ret mn p meth c) (hq : pc + 1 = q) {a : Addr} {k : ClassId} {ty : FieldType} {z j : Int32} {vs : List Value} {dv v : Value} (A : Arv Z h a k ty z vs dv) (hty : ty.isReference = true) (hd : decode bytes pc = .ok (.aaload, 1)) (hj : ¬ j < 0 ∧ j < z) (hv : vs.getD j.toNatClampNeg dv = v) (r : Go p l e R s m args below meth c Z own cl xs0 n0 kc ks Q xs h cells slots (mkF m q L (v :: S))) : Go p l e R s m args below meth c Z own cl xs0 n0 kc ks Q xs h cells slots (mkF m pc L (.int j :: .ref a :: S)) :=
  Go.of_step K (fun s' K T locs X eT t kk => by
    subst hq
    obtain ⟨cl, A1, A2, A3, A4, A5, A6⟩ := A
    exact X.aaload K.1 (by rw [eT]; exact A1.1) (State.isArrayOf_alike K.2.1.alike A1.2.1) hty A1.2.2 (inb_of A3 hj) (A5.at (inb_of A3 hj) hv) (g := mkF m pc L (.int j :: .ref a :: S)) rfl rfl (hb K.2.2.2.1 hd) _ kk) r
theorem Go.aaloadC (K : Cx0 bytes maxL ret mn p meth c) (hq : pc + 1 = q) {a : Addr} {ty : FieldType} {j : Int32} {ce : Cell} {v : Value} (A : Arr Z h a ce ty) (hty : ty.isReference = true) (hd : decode bytes pc = .ok (.aaload, 1)) (hj : ¬ (j < 0 ∨ ce.slots.size ≤ j.toNatClampNeg)) (hv : ce.slots[j.toNatClampNeg]? = some v) (r : Go p l e R s m args below meth c Z own cl xs0 n0 kc ks Q xs h cells slots (mkF m q L (v :: S))) : Go p l e R s m args below meth c Z own cl xs0 n0 kc ks Q xs h cells slots (mkF m pc L (.int j :: .ref a :: S)) :=
  Go.of_step K (fun s' K T locs X eT t kk => by
    subst hq
    exact X.aaload K.1 (by rw [eT]; exact A.1) (State.isArrayOf_alike K.2.1.alike A.2.1) hty A.2.2 hj hv (g := mkF m pc L (.int j :: .ref a :: S)) rfl rfl (hb K.2.2.2.1 hd) _ kk) r
theorem Go.tswIn (K : Cx0 bytes maxL ret mn p meth c) {dflt low high : Int} {offs : Array Int} {len : Nat} {o : Int} {i : Int32} (hd : decode bytes pc = .ok (.tableswitch dflt low high offs, len)) (hin : ¬ (i.toInt < low ∨ i.toInt > high)) (ho : offs[(i.toInt - low).toNat]? = some o) (h0 : 0 ≤ (pc : Int) + o) (hq : ((pc : Int) + o).toNat = q) (r : Go p l e R s m args below meth c Z own cl xs0 n0 kc ks Q xs h cells slots (mkF m q L S)) : Go p l e R s m args below meth c Z own cl xs0 n0 kc ks Q xs h cells slots (mkF m pc L (.int i :: S)) := Go.of_step K (fun s' K T locs X _ t k => XS.tswIn (g := mkF m pc L (.int i :: S)) X.here K.1 rfl (pc0 := pc) (pc' := q) rfl (hb K.2.2.2.1 hd) rfl hin ho h0 hq k) r
theorem Go.tswOut (K : Cx0 bytes maxL ret mn p meth c) {dflt low high : Int} {offs : Array Int} {len : Nat} {i : Int32} (hd : decode bytes pc = .ok (.tableswitch dflt low high offs, len)) (hin : i.toInt < low ∨ i.toInt > high) (h0 : 0 ≤ (pc : Int) + dflt) (hq : ((pc : Int) + dflt).toNat = q) (r : Go p l e R s m args below meth c Z own cl xs0 n0 kc ks Q xs h cells slots (mkF m q L S)) : Go p l e R s m args below meth c Z own cl xs0 n0 kc ks Q xs h cells slots (mkF m pc L (.int i :: S)) := Go.of_step K (fun s' K T locs X _ t k => XS.tswOut (g := mkF m pc L (.int i :: S)) X.here K.1 rfl (pc0 := pc) (pc' := q) rfl (hb K.2.2.2.1 hd) rfl hin h0 hq k) r
theorem Go.alen (K : Cx0 bytes maxL ret mn p meth c) (hq : pc + 1 = q) {a : Addr} {k : ClassId} {ty : FieldType} {z : Int32} {vs : List Value} {dv : Value} (A : Arv Z h a k ty z vs dv) (hd : decode bytes pc = .ok (.arraylength, 1)) (r : Go p l e R s m args below meth c Z own cl xs0 n0 kc ks Q xs h cells slots (mkF m q L (.int z :: S))) : Go p l e R s m args below meth c Z own cl xs0 n0 kc ks Q xs h cells slots (mkF m pc L (.ref a :: S)) :=
  Go.of_step K (fun s' K T locs X eT t kk => by
    subst hq
    obtain ⟨cl, A1, A2, A3, A4, A5, A6⟩ := A
    refine X.arraylength K.1 (by rw [eT]; exact A1.1) (State.isArrayOf_alike K.2.1.alike A1.2.1) (g := mkF m pc L (.ref a :: S)) rfl rfl (hb K.2.2.2.1 hd) _ ?_
    rw [len_of A3 A4]; exact kk) r
theorem Go.initO (K : Cx0 bytes maxL ret mn p meth c) (hq : pc + 3 = q) {i : Nat} (w1 : (Cond.methodLink own i Lib.objectInit).before a0 Z = true) (w2 : (Cond.instanceMethod Lib.objectInit).before a0 Z = true) (w3 : (Cond.code Lib.objectInit ⟨#[0xb1]⟩ 1 none).before a0 Z = true) {a : Addr} (hsz : L.size = maxL) (hd : decode bytes pc = .ok (.invokespecial i, 3)) (hf : 1 ≤ R.frames) {W : Nat} (hW : (S.map fun v => v.category).sum ≤ W) (hl : W + 12 ≤ R.locals)
    (r : Go p l e R s m args below meth c Z own cl xs0 n0 kc ks Q xs h cells slots (mkF m q L S)) : Go p l e R s m args below meth c Z own cl xs0 n0 kc ks Q xs h cells slots (mkF m pc L (.ref a :: S)) :=
  Go.of_warm K (fun s' K T locs X eT => by subst hq; exact Jvm.RoadKit.initO X K.1 K.2.1 K.2.2.1 w1 w2 w3 eT (g := mkF m pc L (.ref a :: S)) rfl (hsz.trans K.2.2.2.2.1.symm) rfl (hb K.2.2.2.1 hd) hf (W := W) (by show 2 * 0 + _ ≤ _; omega) hl) r
/-! ends -/
theorem Go.end_ {f : JFrame} (K : Cx0 bytes maxL ret mn p meth c) {v : Option Value} (hv : ret = none → v = none) (hk : cells ≤ kc) (hs : slots ≤ ks) (hx : ∀ x ∈ xs0, x ∈ xs) (hQ : Q v h)
    (st : ∀ s', Cx Z own bytes maxL ret mn p s' m meth c → ∀ T locs, Stand p l e R s' m args below meth c T locs cells slots → ∀ fs, (∀ (f : JFrame) (acts : List Action), f.method = m → f.locked = none → f.entered = [] → (doReturn e (T.setTop f) acts v).1 = T.setFrames fs) → Steps p.tables e below (T.setTop f) (T.setFrames fs)) : Go p l e R s m args below meth c Z own cl xs0 n0 kc ks Q xs h cells slots f := fun T locs vm0 k0 X hS hkk hZ ho eT N H => by
  obtain ⟨fs, hr, hrun, hended, e1, e2, e3, e4⟩ := X.leaveW hS (by rw [eT]; exact hkk) (v := v) (fun q => hv (K.2.2.2.1.symm.trans q)) K.2.2.2.2.1
  exact ⟨_, _, st (s.setVm vm0) (K.at hZ ho) T locs X fs hr, hrun, hended, v, locs, rfl, ⟨by show Q v T.heap; rw [eT]; exact hQ, by show Lits Z cl xs0 T.vm T.heap; rw [eT]; exact (H.step (s := s.setVm vm0) rfl X.warmed.wide (Or.inl X.warmed.interned_eq)).sub hx, N⟩, e1, e2, e3, e4.mono hk hs⟩
theorem Go.retV (K : Cx0 bytes maxL none mn p meth c) (hd : decode bytes pc = .ok (.return_, 1)) (hk : cells ≤ kc) (hs : slots ≤ ks) (hx : ∀ x ∈ xs0, x ∈ xs) (hQ : Q none h) : Go p l e R s m args below meth c Z own cl xs0 n0 kc ks Q xs h cells slots (mkF m pc L []) :=
  Go.end_ K (fun _ => rfl) hk hs hx hQ fun s' K T locs X fs hr => X.returnOut K.1 K.2.2.2.2.2.1 (hb K.2.2.2.1 hd) hr
theorem Go.retN {t : FieldType} {z : Int32} (K : Cx0 bytes maxL (some t) mn p meth c) (ht : t = .boolean ∨ t = .byte ∨ t = .char ∨ t = .short) (hd : decode bytes pc = .ok (.ireturn, 1)) (hk : cells ≤ kc) (hs : slots ≤ ks) (hx : ∀ x ∈ xs0, x ∈ xs) (hQ : Q (some (.int (nar t z))) h) : Go p l e R s m args below meth c Z own cl xs0 n0 kc ks Q xs h cells slots (mkF m pc L (.int z :: S)) :=
  Go.end_ K (fun q => by cases q) hk hs hx hQ fun s' K T locs X fs hr => Jvm.RoadKit.retN X K.1 K.2.2.2.2.2.1 ht (hb K.2.2.2.1 hd) hr
theorem Go.retI {z : Int32} (K : Cx0 bytes maxL (some .int) mn p meth c) (hd : decode bytes pc = .ok (.ireturn, 1)) (hk : cells ≤ kc) (hs : slots ≤ ks) (hx : ∀ x ∈ xs0, x ∈ xs) (hQ : Q (some (.int z)) h) : Go p l e R s m args below meth c Z own cl xs0 n0 kc ks Q xs h cells slots (mkF m pc L [.int z]) :=
  Go.end_ K (fun q => by cases q) hk hs hx hQ fun s' K T locs X fs hr => X.ireturnOut K.1 K.2.2.2.2.2.1 rfl (Or.inl rfl) (hb K.2.2.2.1 hd) hr
theorem Go.retA {t : FieldType} {w : Value} (K : Cx0 bytes maxL (some t) mn p meth c) (ht : t.isReference = true) (hw : w.isRef = true) (hd : decode bytes pc = .ok (.areturn, 1)) (hk : cells ≤ kc) (hs : slots ≤ ks) (hx : ∀ x ∈ xs0, x ∈ xs) (hQ : Q (some w) h) : Go p l e R s m args below meth c Z own cl xs0 n0 kc ks Q xs h cells slots (mkF m pc L [w]) :=
  Go.end_ K (fun q => by cases q) hk hs hx hQ fun s' K T locs X fs hr => X.areturnOut K.1 hw K.2.2.2.2.2.1 ht (hb K.2.2.2.1 hd) hr
theorem Go.retJ {z : Int64} (K : Cx0 bytes maxL (some .long) mn p meth c) (hd : decode bytes pc = .ok (.lreturn, 1)) (hk : cells ≤ kc) (hs : slots ≤ ks) (hx : ∀ x ∈ xs0, x ∈ xs) (hQ : Q (some (.long z)) h) : Go p l e R s m args below meth c Z own cl xs0 n0 kc ks Q xs h cells slots (mkF m pc L [.long z]) :=
  Go.end_ K (fun q => by cases q) hk hs hx hQ fun s' K T locs X fs hr => X.lreturnOut K.1 K.2.2.2.2.2.1 (hb K.2.2.2.1 hd) hr
/-! the heap -/
theorem Go.putF (K : Cx0 bytes maxL ret mn p meth c) (hq : pc + 3 = q) {R0 O n d C : String} {i kk : Nat} {ty : FieldType} (w : (Cond.fieldLink own i R0 n d).before a0 Z = true) (via : Via Z R0 O n d) {a : Addr} {v old : Value} (F : Fld Z h a O n d old) (E : Exa Z h a C) (Ly : (Cond.lays C O n d).before a0 Z = true ∨ ((Cond.laysFinal C O n d).before a0 Z = true ∧ own = O ∧ mn = "<init>")) (wi : (Cond.instantiable C kk).before a0 Z = true)
    (hty : parseFieldDescriptor d = some ty) (hn : narrow ty v = v) (hf : fits ty v = true) (hd : decode bytes pc = .ok (.putfield i, 3)) (ha : n0 ≤ a) (hax : a ∈ xs) (r : ∀ h', Wr h h' a (Jvm.RoadKit.slotOf Z O n d) v → Fld Z h' a O n d v → Exa Z h' a C → Go p l e R s m args below meth c Z own cl xs0 n0 kc ks Q xs h' cells slots (mkF m q L S)) : Go p l e R s m args below meth c Z own cl xs0 n0 kc ks Q xs h cells slots (mkF m pc L (v :: .ref a :: S)) :=
  Go.of_heap (cells' := cells) (slots' := slots) K fun s' K T locs X eT N => by
    subst hq
    obtain ⟨T', h', X', eT', W, st⟩ := Jvm.RoadKit.putF X K.1 K.2.1 K.2.2.1 (host := "") (Or.inl w) via eT F E (Ly.imp id fun z => ⟨z.1, z.2.1, K.2.2.2.2.2.2.2.trans z.2.2⟩) wi hty hn hf (g := mkF m pc L (v :: .ref a :: S)) rfl rfl (hb K.2.2.2.1 hd)
    exact ⟨T', h', _, _, xs, X', eT', Nat.le_of_eq W.size.symm, Fr.snoc X' N ha, fun vm H => H.wr W hax, st, r h' W (F.same W) (E.wr W)⟩
theorem Go.putFN (K : Cx0 bytes maxL ret mn p meth c) (hq : pc + 3 = q) {R0 O n d C : String} {i kk : Nat} {ty : FieldType} (w : (Cond.fieldLink own i R0 n d).before a0 Z = true) (via : Via Z R0 O n d) {a : Addr} {v v' old : Value} (F : Fld Z h a O n d old) (E : Exa Z h a C) (Ly : (Cond.lays C O n d).before a0 Z = true ∨ ((Cond.laysFinal C O n d).before a0 Z = true ∧ own = O ∧ mn = "<init>")) (wi : (Cond.instantiable C kk).before a0 Z = true)
    (hty : parseFieldDescriptor d = some ty) (hn : narrow ty v = v') (hf : fits ty v' = true) (hd : decode bytes pc = .ok (.putfield i, 3)) (ha : n0 ≤ a) (hax : a ∈ xs) (r : ∀ h', Wr h h' a (Jvm.RoadKit.slotOf Z O n d) v' → Fld Z h' a O n d v' → Exa Z h' a C → Go p l e R s m args below meth c Z own cl xs0 n0 kc ks Q xs h' cells slots (mkF m q L S)) : Go p l e R s m args below meth c Z own cl xs0 n0 kc ks Q xs h cells slots (mkF m pc L (v :: .ref a :: S)) :=
  Go.of_heap (cells' := cells) (slots' := slots) K fun s' K T locs X eT N => by
    subst hq
    obtain ⟨T', h', X', eT', W, st⟩ := Jvm.RoadKit.putFN X K.1 K.2.1 K.2.2.1 w via eT F E (Ly.imp id fun z => ⟨z.1, z.2.1, K.2.2.2.2.2.2.2.trans z.2.2⟩) wi hty hn hf (g := mkF m pc L (v :: .ref a :: S)) rfl rfl (hb K.2.2.2.1 hd)
    exact ⟨T', h', _, _, xs, X', eT', Nat.le_of_eq W.size.symm, Fr.snoc X' N ha, fun vm H => H.wr W hax, st, r h' W (F.same W) (E.wr W)⟩
theorem Go.new (K : Cx0 bytes maxL ret mn p meth c) (hq : pc + 3 = q) {C : String} {i k : Nat} {cells' slots' : Nat} (w : (Cond.classLink own i C).before a0 Z = true) (wi : (Cond.instantiable C k).before a0 Z = true) (wz : (Cond.initialized C).before a0 Z = true) (hd : decode bytes pc = .ok (.new i, 3)) (hc : cells + 1 = cells') (hs : slots + k = slots') (hc' : cells' ≤ R.cells) (hs' : slots' ≤ R.slots)
    (r : ∀ h' a, a = h.size → Ext h h' → Exa Z h' a C → (∀ {O nm d : String} {ty : FieldType}, Laid Z a0 C O nm d → parseFieldDescriptor d = some ty → Fld Z h' a O nm d (defaultValue ty)) → Go p l e R s m args below meth c Z own cl xs0 n0 kc ks Q (a :: xs) h' cells' slots' (mkF m q L (.ref a :: S))) : Go p l e R s m args below meth c Z own cl xs0 n0 kc ks Q xs h cells slots (mkF m pc L S) :=
  Go.of_heap (cells' := cells') (slots' := slots') K fun s' K T locs X eT N => by
    subst hq hc hs
    obtain ⟨T', h', X', eT', E, A, D, -, st⟩ := newO X K.1 K.2.1 K.2.2.1 w wi wz eT (g := mkF m pc L S) rfl (hb K.2.2.2.1 hd) hc' hs'
    exact ⟨T', h', _, _, h.size :: xs, X', eT', E.1, N, fun vm H => H.cons (Nat.le_refl _) E A.lt, st, r h' _ rfl E A D⟩
theorem Go.newarr (K : Cx0 bytes maxL ret mn p meth c) (hq : pc + 2 = q) {aty : ArrayType} {z : Int32} {cap cells' slots' : Nat} (w : (Cond.arrayClass (newarray.typeOf aty)).before a0 Z = true) (hd : decode bytes pc = .ok (.newarray aty, 2)) (hz : ¬ z < 0) (hcap : z.toNatClampNeg ≤ cap) (hb8 : cap * 8 ≤ 536870912) (hc : cells + 1 = cells') (hs : slots + cap = slots') (hc' : cells' ≤ R.cells) (hs' : slots' ≤ R.slots)
    (r : ∀ h' a k, a = h.size → Ext h h' → Arv Z h' a k (newarray.typeOf aty) z (List.replicate z.toNatClampNeg (defaultValue (newarray.typeOf aty))) (defaultValue (newarray.typeOf aty)) → Go p l e R s m args below meth c Z own cl xs0 n0 kc ks Q (a :: xs) h' cells' slots' (mkF m q L (.ref a :: S))) : Go p l e R s m args below meth c Z own cl xs0 n0 kc ks Q xs h cells slots (mkF m pc L (.int z :: S)) :=
  Go.of_heap (cells' := cells') (slots' := slots') K fun s' K T locs X eT N => by
    subst hq hc hs
    obtain ⟨T', h', cA, X', eT', E, A, st⟩ := newP X K.1 K.2.1 w eT (g := mkF m pc L (.int z :: S)) rfl (hb K.2.2.2.1 hd) rfl hz hcap hb8 hc' hs'
    exact ⟨T', h', _, _, h.size :: xs, X', eT', E.1, N, fun vm H => H.cons (Nat.le_refl _) E A.lt, st, r h' _ cA rfl E ((Arv.new A hz).pad fun i => by simpa using pad_rep [] (defaultValue (newarray.typeOf aty)) z.toNatClampNeg i)⟩
theorem Go.castore (K : Cx0 bytes maxL ret mn p meth c) (hq : pc + 1 = q) {a : Addr} {k : ClassId} {z j x : Int32} {vs : List Value} {dv : Value} (A : Arv Z h a k .char z vs dv) {i : Nat} (hd : decode bytes pc = .ok (.castore, 1)) (hj : ¬ j < 0 ∧ j < z) (hi : j.toNatClampNeg = i) (hl : i < vs.length) (ha : n0 ≤ a) (hax : a ∈ xs)
    (r : ∀ h', Wr h h' a i (.int (nar .char x)) → Arv Z h' a k .char z (vs.set i (.int (nar .char x))) dv → Go p l e R s m args below meth c Z own cl xs0 n0 kc ks Q xs h' cells slots (mkF m q L S)) : Go p l e R s m args below meth c Z own cl xs0 n0 kc ks Q xs h cells slots (mkF m pc L (.int x :: .int j :: .ref a :: S)) :=
  Go.of_heap (cells' := cells) (slots' := slots) K fun s' K T locs X eT N => by
    subst hq
    obtain ⟨ce, A1, A2, A3, A4, A5, A6⟩ := A
    obtain ⟨T', h', X', eT', W, st⟩ := stC X K.1 K.2.1 eT A1 (j := j) (x := x) (inb_of A3 hj) (g := mkF m pc L (.int x :: .int j :: .ref a :: S)) rfl rfl (hb K.2.2.2.1 hd)
    exact ⟨T', h', _, _, xs, X', eT', Nat.le_of_eq W.size.symm, Fr.snoc X' N ha, fun vm H => H.wr W hax, st, r h' (hi ▸ W) (Arv.set A1 A2 A3 A4 A5 A6 (fits_nar_char _) W i hi hl)⟩
theorem Go.bastore (K : Cx0 bytes maxL ret mn p meth c) (hq : pc + 1 = q) {a : Addr} {k : ClassId} {z j x : Int32} {vs : List Value} {dv : Value} (A : Arv Z h a k .byte z vs dv) {i : Nat} (hd : decode bytes pc = .ok (.bastore, 1)) (hj : ¬ j < 0 ∧ j < z) (hi : j.toNatClampNeg = i) (hl : i < vs.length) (ha : n0 ≤ a) (hax : a ∈ xs)
    (r : ∀ h', Wr h h' a i (.int (nar .byte x)) → Arv Z h' a k .byte z (vs.set i (.int (nar .byte x))) dv → Go p l e R s m args below meth c Z own cl xs0 n0 kc ks Q xs h' cells slots (mkF m q L S)) : Go p l e R s m args below meth c Z own cl xs0 n0 kc ks Q xs h cells slots (mkF m pc L (.int x :: .int j :: .ref a :: S)) :=
  Go.of_heap (cells' := cells) (slots' := slots) K fun s' K T locs X eT N => by
    subst hq
    obtain ⟨ce, A1, A2, A3, A4, A5, A6⟩ := A
    obtain ⟨T', h', X', eT', W, st⟩ := stB X K.1 K.2.1 eT A1 (j := j) (x := x) (inb_of A3 hj) (g := mkF m pc L (.int x :: .int j :: .ref a :: S)) rfl rfl (hb K.2.2.2.1 hd)
    exact ⟨T', h', _, _, xs, X', eT', Nat.le_of_eq W.size.symm, Fr.snoc X' N ha, fun vm H => H.wr W hax, st, r h' (hi ▸ W) (Arv.set A1 A2 A3 A4 A5 A6 (fits_nar_byte _) W i hi hl)⟩
/-- array.clone() -/
theorem Go.clone (K : Cx0 bytes maxL ret mn p meth c) (hq : pc + 3 = q) {ad : String} {i : Nat} (w1 : (Cond.methodLink own i ⟨ad, "clone", "()Ljava/lang/Object;"⟩).before a0 Z = true) (w2 : (Cond.sameMethod ad "java/lang/Object" "clone" "()Ljava/lang/Object;").before a0 Z = true) (w3 : (Cond.native ⟨"java/lang/Object", "clone", "()Ljava/lang/Object;"⟩).before a0 Z = true) (w4 : (Cond.instanceMethod ⟨"java/lang/Object", "clone", "()Ljava/lang/Object;"⟩).before a0 Z = true) (w5 : (Cond.selects ad ⟨ad, "clone", "()Ljava/lang/Object;"⟩ ⟨"java/lang/Object", "clone", "()Ljava/lang/Object;"⟩).before a0 Z = true) (w6 : (Cond.castable ad "java/lang/Cloneable").before a0 Z = true)
    {a : Addr} {k : ClassId} {ty : FieldType} {z : Int32} {vs : List Value} {dv : Value} (F : Arv Z h a k ty z vs dv) (E : Exa Z h a ad) (hd : decode bytes pc = .ok (.invokevirtual i, 3)) (hsz : L.size = maxL) (hf : 1 ≤ R.frames) {W cap cells' slots' : Nat} (hW : (S.map fun v => v.category).sum ≤ W) (hl : W + 14 ≤ R.locals) (hcap : z.toNatClampNeg ≤ cap) (hc : cells + 1 = cells') (hs : slots + cap = slots') (hc' : cells' ≤ R.cells) (hs' : slots' ≤ R.slots)
    (r : ∀ h' b, b = h.size → Ext h h' → Arv Z h' b k ty z vs dv → Exa Z h' b ad → Go p l e R s m args below meth c Z own cl xs0 n0 kc ks Q (b :: xs) h' cells' slots' (mkF m q L (.ref b :: S))) : Go p l e R s m args below meth c Z own cl xs0 n0 kc ks Q xs h cells slots (mkF m pc L (.ref a :: S)) :=
  Go.of_heap (cells' := cells') (slots' := slots') K fun s' K T locs X eT N => by
    subst hq hc hs
    obtain ⟨cl, A, q1, q2, q3, H, G⟩ := F
    have FC : FitC Z cl := fitC_of A fun i hi v hv => by rw [H i hi] at hv; cases hv; exact G i hi
    obtain ⟨T', h', X', e', ex, A', E', st⟩ := cloneA X K.1 K.2.1 K.2.2.1 w1 w2 w3 w4 w5 w6 eT A E FC (g := mkF m pc L (.ref a :: S)) rfl (hsz.trans K.2.2.2.2.1.symm) rfl (hb K.2.2.2.1 hd) hf (W := W) (by show 2 * 0 + _ ≤ _; omega) hl (by rw [q2]; exact hcap) hc' hs'
    exact ⟨T', h', _, _, h.size :: xs, X', e', ex.1, N, fun vm H' => H'.cons (Nat.le_refl _) ex E'.lt, st, r h' _ rfl ex ⟨_, A', q1, q2, q3, H, G⟩ E'⟩
/-- the walk's start moved up to the heap at hand: nothing written yet, nothing made yet, as much room as is left -/
theorem rebase {T : State} {locs : List Loc} (X : Stand p l e R s m args below meth c T locs cells slots) (hc : cells ≤ R.cells) (hs : slots ≤ R.slots) :
    Stand p l e { R with cells := R.cells - cells, slots := R.slots - slots } { s with heap := T.heap, slotsUsed := T.slotsUsed } m args below meth c T [] 0 0 := by
  have hF : ({ s with heap := T.heap, slotsUsed := T.slotsUsed } : State).frames = .invoking m args :: below := X.frames
  have hm' : ({ s with heap := T.heap, slotsUsed := T.slotsUsed } : State).vm.method? m = some meth := X.method
  have hU : ({ s with heap := T.heap, slotsUsed := T.slotsUsed } : State).localsInUse = s.localsInUse := by
    rw [State.localsInUse_invoking hF hm' X.code, State.localsInUse_invoking X.frames X.method X.code]
  have h1 := X.heapSize
  have h2 := X.used
  have hroom : ({ s with heap := T.heap, slotsUsed := T.slotsUsed } : State).hasRoom e.platform { R with cells := R.cells - cells, slots := R.slots - slots } = true := by
    have hr := X.room
    have hb := X.book
    simp only [State.hasRoom, Bool.and_eq_true, decide_eq_true_eq] at hr ⊢
    rw [hU]
    obtain ⟨⟨⟨⟨r1, r2⟩, r3⟩, r4⟩, r5⟩ := hr
    exact ⟨⟨⟨⟨r1, r2⟩, by show T.heap.size + (R.cells - cells) ≤ _; omega⟩, by show T.slotsUsed + (R.slots - slots) ≤ _; omega⟩, hb⟩
  have hears : ({ s with heap := T.heap, slotsUsed := T.slotsUsed } : State).hears m below = true := X.hears
  obtain ⟨q1, -⟩ := X.same
  refine ⟨X.admits, X.cas, X.clock, hF, hroom, hears, hm', X.code, X.here, X.tail, X.warmed, X.limits, X.bytes, ?_, Nat.le_refl _, Nat.le_refl _, ?_, ?_, fun a c' hc' => ⟨c', hc', rfl, rfl, fun _ _ => rfl⟩⟩
  · exact q1
  · show T.slotsUsed = T.slotsUsed + ((T.heap.toList.drop T.heap.size).map (·.slots.size)).sum
    rw [List.drop_eq_nil_of_le (by simp)]; simp
  · show ((T.heap.toList.drop T.heap.size).map (·.slots.size)).sum ≤ 0
    rw [List.drop_eq_nil_of_le (by simp)]; simp
theorem thread_of {fr : Frame} {r : List Frame} (h : s.frames = fr :: r) : ∃ t, s.threads[s.cur]? = some t := by
  cases q : s.threads[s.cur]? with
  | some t => exact ⟨t, rfl⟩
  | none => simp [State.frames, q] at h
/-- and back again -/
theorem unbase {T T' : State} {locs : List Loc} {vm' : Vm} {k n : Nat} {R' : Room} (X : Stand p l e R s m args below meth c T locs cells slots) (hW : s.Warmed39 vm') (hv : T'.vm = vm') (Y : Stand p l e R' (({ s with heap := T.heap, slotsUsed := T.slotsUsed } : State).setVm vm') m args below meth c T' [] k n) :
    Stand p l e R (s.setVm vm') m args below meth c T' locs (cells + k) (slots + n) := by
  have Xr := X.retabled hW
  have e1 : (s.setVm vm').sameButNew (({ s with heap := T.heap, slotsUsed := T.slotsUsed } : State).setVm vm') locs cells slots := by
    obtain ⟨t, ht⟩ := thread_of X.frames
    obtain ⟨-, q2, q3, q4, q5, q6⟩ := X.same
    refine ⟨?_, q2, q3, q4, q5, q6⟩
    show (({ s with heap := T.heap, slotsUsed := T.slotsUsed } : State).setVm vm') = ({ (s.setVm vm').setFrames (s.setVm vm').frames with heap := T.heap, slotsUsed := T.slotsUsed } : State)
    rw [State.setFrames_self (s := s.setVm vm') ht]
    rfl
  have e2 := e1.trans Y.same
  rw [List.append_nil] at e2
  exact ⟨Xr.admits, Xr.cas, Xr.clock, Xr.frames, Xr.room, Xr.hears, Xr.method, Xr.code, Y.here, Y.tail, by rw [hv]; exact State.WarmedH.refl (s.setVm vm'), Y.limits, Y.bytes, e2⟩
/-- ldc of an entry that is resolved -/
theorem ldc_res {T : State} {locs : List Loc} {vm0 : Vm} {i n : Nat} {a : Addr} {text : String} {units : Array UInt16} (X : Stand p l e R (s.setVm vm0) m args below meth c T locs cells slots) (hx : p.tables.exec = Jvm.exec) (hZ : Z.Warmed39 vm0) (ho : vm0.findClass own = some m.cls) (w : (Cond.stringLink own i text).before a0 Z = true) {k : Class} (hkk : vm0.classes[m.cls]? = some k) (h0 : k.resolved[i]? = some (some (.string a))) (hd : decode c.code pc = .ok (.ldc i, 2)) (hl : Lt Z T.heap xs a units) (H : Lits Z cl xs vm0 T.heap) :
    ∃ (a : Addr) (T' : State), Stand p l e R (s.setVm T'.vm) m args below meth c T' locs (cells + 2) (slots + (n + 4)) ∧ (s.setVm vm0).Since T'.vm T'.heap.size ∧ Ext T.heap T'.heap ∧ Lt Z T'.heap xs a units ∧ Lits Z cl xs T'.vm T'.heap ∧ ∀ t, Steps p.tables e below (T'.setTop (mkF m (pc + 2) L (.ref a :: S))) t → Steps p.tables e below (T.setTop (mkF m pc L S)) t := by
  have hlit : RoadKit.Lit (s.setVm vm0) own i a := by simp [RoadKit.Lit, State.resolvedAt?, State.setVm, ho, hkk, h0]
  exact ⟨a, T, (X.mono (Nat.le_add_right _ _) (Nat.le_add_right _ _)).retabled X.warmed.wide, X.warmed.since _, ⟨Nat.le_refl _, fun _ _ q => q⟩, hl, H.step (s := s.setVm vm0) rfl X.warmed.wide (Or.inl X.warmed.interned_eq), ldcAgain X hx hZ ho w hlit (g := mkF m pc L S) rfl hd⟩
/-- ldc of an entry that is open, its text interned -/
theorem ldc_found {T : State} {locs : List Loc} {vm0 : Vm} {i j n : Nat} {a : Addr} {text : String} {units : Array UInt16} (X : Stand p l e R (s.setVm vm0) m args below meth c T locs cells slots) (hx : p.tables.exec = Jvm.exec) {k : Class} {cf : ClassFile} (hkk : vm0.classes[m.cls]? = some k) (hcf : k.cf = some cf) (hcp : cf.constantPool[i]? = some (.string j)) (hu : cf.constantPool[j]? = some (.utf8 units)) (hnm : namesOf? cf.constantPool i = some (.string text)) (h0 : k.resolved[i]? = some none) (hf : vm0.interned.find? (fun p => p.1 == units) = some (units, a)) (hd : decode c.code pc = .ok (.ldc i, 2)) (hl : Lt Z T.heap xs a units) (H : Lits Z cl xs vm0 T.heap) :
    ∃ (a : Addr) (T' : State), Stand p l e R (s.setVm T'.vm) m args below meth c T' locs (cells + 2) (slots + (n + 4)) ∧ (s.setVm vm0).Since T'.vm T'.heap.size ∧ Ext T.heap T'.heap ∧ Lt Z T'.heap xs a units ∧ Lits Z cl xs T'.vm T'.heap ∧ ∀ t, Steps p.tables e below (T'.setTop (mkF m (pc + 2) L (.ref a :: S))) t → Steps p.tables e below (T.setTop (mkF m pc L S)) t := by
  obtain ⟨k', hk', ek, -, hent, -⟩ := X.warmed.2.2 m.cls k hkk
  have hcf' : k'.cf = some cf := by rw [ek]; exact hcf
  have hif : T.vm.interned.find? (fun p => p.1 == units) = some (units, a) := by rw [X.warmed.interned_eq]; exact hf
  rcases hent i with e0 | ⟨-, r, -, hr⟩
  · have hop : k'.resolved[i]? = some none := e0.trans h0
    have hW : (s.setVm vm0).Warmed39 (T.vm.noted m.cls i (.string a)) := X.warmed.wide.notedString (s := s.setVm vm0) hkk (Or.inl h0) (by rw [hcf]; exact hnm) (by rw [hcf]; exact hcp) (by rw [hcf]; simp [ConstantPool.utf8?, hu]) hif
    have hni : (T.vm.noted m.cls i (.string a)).interned = vm0.interned := X.warmed.interned_eq
    refine ⟨a, T.setVm (T.vm.noted m.cls i (.string a)), (X.mono (Nat.le_add_right _ _) (Nat.le_add_right _ _)).retabled hW, ⟨hW, fun q pr hq hp => ?_⟩, ⟨Nat.le_refl _, fun _ _ q => q⟩, hl, H.step (s := s.setVm vm0) rfl hW (Or.inl hni), fun t hrest => ?_⟩
    · have hp' : (T.vm.noted m.cls i (.string a)).interned[q]? = some pr := hp
      rw [hni] at hp'
      exact absurd (Array.getElem?_eq_some_iff.mp hp').1 (Nat.not_lt.mpr hq)
    · show Steps p.tables e below (T.setTop { method := m, pc := pc, locals := L, stack := S, locked := none }) t
      jvm_step X.here [hx, hd, ldc.wp_string_found (e := e) (s := T) (f := mkF m pc L S) X.here.top hk' hcf' hcp hu hop hif]
      exact hrest
  · exfalso
    cases r <;> simp [State.rightAt, State.setVm, hkk, hcf, hnm] at hr
theorem atoms_at {s' : State} (hZ : Z.Warmed39 s'.vm) (wS : ∀ a ∈ Bundle.stringAtoms, a.before a0 Z = true) : ∀ a ∈ Bundle.stringAtoms, a.before args s' = true := fun d hd => by
  have z := wS d hd
  simp only [Bundle.stringAtoms, List.mem_cons, List.not_mem_nil, or_false] at hd
  rcases hd with rfl | rfl | rfl | rfl | rfl | rfl | rfl
  · exact mv hZ z
  · exact mv hZ z
  · exact mvA hZ z
  · exact mv hZ z
  · exact mv hZ z
  · exact mv hZ z
  · exact mv hZ z
/-- ldc of an entry that is open, its text not yet interned -/
theorem ldc_new {T : State} {locs : List Loc} {vm0 : Vm} {i j n : Nat} {text : String} {units : Array UInt16} (X : Stand p l e R (s.setVm vm0) m args below meth c T locs cells slots) (hx : p.tables.exec = Jvm.exec) (ho : vm0.findClass own = some m.cls) (w : (Cond.stringLink own i text).before a0 Z = true) (wS : ∀ a ∈ Bundle.stringAtoms, a.before a0 Z = true) {k : Class} {cf : ClassFile} (hkk : vm0.classes[m.cls]? = some k) (hcf : k.cf = some cf) (hcp : cf.constantPool[i]? = some (.string j)) (hu : cf.constantPool[j]? = some (.utf8 units)) (hdec : utf16ToString? units = some text) (h0 : k.resolved[i]? = some none) (hf : vm0.interned.find? (fun p => p.1 == units) = none) (hd : decode c.code pc = .ok (.ldc i, 2)) (hn : 4 * text.toList.length ≤ n) (hbig : n ≤ 536870912) (hc' : cells + 2 ≤ R.cells) (hs' : slots + (n + 4) ≤ R.slots) (H : Lits Z cl xs vm0 T.heap) (hZ : Z.Warmed39 vm0) (hlat : ∀ c ∈ text.toList, c.toNat < 256) :
    ∃ (a : Addr) (T' : State), Stand p l e R (s.setVm T'.vm) m args below meth c T' locs (cells + 2) (slots + (n + 4)) ∧ (s.setVm vm0).Since T'.vm T'.heap.size ∧ Ext T.heap T'.heap ∧ Lt Z T'.heap xs a units ∧ Lits Z cl xs T'.vm T'.heap ∧ ∀ t, Steps p.tables e below (T'.setTop (mkF m (pc + 2) L (.ref a :: S))) t → Steps p.tables e below (T.setTop (mkF m pc L S)) t := by
  have held : ConstHeldL ({ s.setVm vm0 with heap := T.heap, slotsUsed := T.slotsUsed } : State) own i := fun c' k' cf' j' us' b q1 q2 q3 q4 q5 q6 => by
    cases (show vm0.findClass own = some c' from q1).symm.trans ho
    cases (show vm0.classes[m.cls]? = some k' from q2).symm.trans hkk
    cases hcf.symm.trans q3
    cases hcp.symm.trans q4
    cases hu.symm.trans q5
    rcases q6 with q6 | ⟨-, q6⟩
    · cases h0.symm.trans q6
    · cases hf.symm.trans q6
  have Y := rebase X (by omega) (by omega)
  obtain ⟨a, T', Y', hS', ⟨kk, hkk', hrr⟩, hb, -, hint, ⟨us, hus, q, cS, hqa, hsl, hkS, hB, hbyt, hloc⟩, st⟩ := Y.ldcColdF (fun b ce hbc => hbc) hx (own := own) ho (mvS (s := { s with heap := T.heap, slotsUsed := T.slotsUsed }) hZ w) (atoms_at hZ wS) held (fun us hu' => Jvm.ClassFile.lat_of_text hu' hlat) (g := mkF m pc L S) rfl hd hn hbig (by show 0 + 2 ≤ R.cells - cells; omega) (by show 0 + (n + 4) ≤ R.slots - slots; omega)
  simp only [Nat.zero_add] at Y'
  have hW : (s.setVm vm0).Warmed39 T'.vm := State.Warmed39.of_rootvm rfl hS'.1
  have E : Ext T.heap T'.heap := ext_of hb
  have hTi : T.vm.interned = vm0.interned := X.warmed.interned_eq
  have hbk : (s.setVm vm0).Since T'.vm T'.heap.size := ⟨hW, fun jj pr hj hp => by
    obtain ⟨z1, z2⟩ := hS'.2 jj pr hj hp
    exact ⟨Nat.le_trans X.same.2.1 z1, z2⟩⟩
  have hlu := Jvm.ClassFile.lat_of_text hus hlat
  have hueq : us = units := by
    have z := (Jvm.ClassFile.units_of_text hus hlat).trans (Jvm.ClassFile.units_of_text hdec hlat).symm
    exact Array.toList_inj.mp z
  subst hueq
  subst hqa
  -- the pair that the intern table has won is this very text's, at this very object
  have hpush : T'.vm.interned = vm0.interned.push (us, q.sa) := by
    have hfd : T'.vm.interned.find? (fun p => p.1 == us) = some (us, q.sa) := by
      obtain ⟨k2, e1, e2, e3, e4, -⟩ := hW.2.2.2 m.cls k hkk
      cases e1.symm.trans hkk'
      rcases e4 i with e0 | ⟨-, r, e5, hr | ⟨a', tx, si, us', rfl, -, q3, q4, q5⟩⟩
      · cases (e0.symm.trans hrr).symm.trans h0
      · cases e5.symm.trans hrr
        simp [State.rightAt, State.setVm, hkk, hcf] at hr
      · cases e5.symm.trans hrr
        rw [hcf] at q3 q4
        have e7 : si = j := by have z := q3.symm.trans hcp; simpa using z
        subst e7
        have e8 : us' = us := by simpa [ConstantPool.utf8?, hu] using q4.symm
        subst e8
        exact q5
    rcases hint with hint | ⟨u2, a2, -, hint⟩
    · rw [hint, hTi, hf] at hfd; cases hfd
    · rw [hint, hTi, Array.find?_push, hf] at hfd
      simp only [Option.none_or] at hfd
      split at hfd
      · cases hfd; rw [hint, hTi]
      · cases hfd
  have hge : T.heap.size ≤ q.sa := by
    have z := hS'.2 vm0.interned.size (us, q.sa) (Nat.le_refl _) (by rw [hpush]; simp)
    exact z.1
  have hge2 : T.heap.size ≤ q.sd := by
    rcases hloc with ⟨z1, -⟩ | ⟨-, z2⟩
    · exact absurd hge (Nat.not_le.mpr z1)
    · exact z2
  have hl : Lt Z T'.heap xs q.sa us := lt_core (hZ.alike.trans hW.alike) hlu hsl hkS hB hbyt (fun z => absurd hge (Nat.not_le.mpr (H.1 _ z))) (fun z => absurd hge2 (Nat.not_le.mpr (H.1 _ z)))
  exact ⟨q.sa, T', unbase (s := s.setVm vm0) X hW rfl Y', hbk, E, hl, (H.ext E).step (s := s.setVm vm0) rfl hW (Or.inr ⟨us, q.sa, hpush, hl⟩), st⟩
/-- ldc of a String constant -/
theorem Go.ldcS (K : Cx0 bytes maxL ret mn p meth c) (hq : pc + 2 = q) {text : String} {i : Nat} (hin : (own, i) ∈ cl) (w : (Cond.stringLink own i text).before a0 Z = true) (wS : ∀ a ∈ Bundle.stringAtoms, a.before a0 Z = true) (hlat : ∀ c ∈ text.toList, c.toNat < 256) (hd : decode bytes pc = .ok (.ldc i, 2)) {n cells' slots' : Nat} (hn : 4 * text.toList.length ≤ n) (hbig : n ≤ 536870912) (hc : cells + 2 = cells') (hs : slots + (n + 4) = slots') (hc' : cells' ≤ R.cells) (hs' : slots' ≤ R.slots)
    (r : ∀ h' a, Ext h h' → (∃ units : Array UInt16, utf16ToString? units = some text ∧ Lt Z h' xs a units) → Go p l e R s m args below meth c Z own cl xs0 n0 kc ks Q xs h' cells' slots' (mkF m q L (.ref a :: S))) : Go p l e R s m args below meth c Z own cl xs0 n0 kc ks Q xs h cells slots (mkF m pc L S) := fun T locs vm0 k0 X hS hk hZ ho eT N H => by
  subst hq hc hs
  have wl : (Cond.stringLink own i text).before args (s.setVm vm0) = true := mvS hZ w
  obtain ⟨k, cf, j, units, hkk, hcf, hcp, hu, hnm, hdec, hres⟩ := Cond.stringLink_spec (s := s.setVm vm0) ho wl
  have hlt := Jvm.ClassFile.lat_of_text hdec hlat
  -- the step, in each of the three ways that the tables can stand
  have key : ∃ (a : Addr) (T' : State), Stand p l e R (s.setVm T'.vm) m args below meth c T' locs (cells + 2) (slots + (n + 4)) ∧ (s.setVm vm0).Since T'.vm T'.heap.size ∧ Ext T.heap T'.heap ∧ Lt Z T'.heap xs a units ∧ Lits Z cl xs T'.vm T'.heap ∧ ∀ t, Steps p.tables e below (T'.setTop (mkF m (pc + 2) L (.ref a :: S))) t → Steps p.tables e below (T.setTop (mkF m pc L S)) t := by
    have hTh : Lits Z cl xs vm0 T.heap := by rw [eT]; exact H
    rcases hres with h0 | ⟨a, h0⟩
    · cases hf : vm0.interned.find? (fun p => p.1 == units) with
      | some pr =>
        obtain ⟨u', a⟩ := pr
        have hu' : u' = units := by have z := Array.find?_some hf; simpa using z
        subst hu'
        have hlt := hTh.2 _ hin _ k cf j u' a ho hkk hcf hcp hu (Or.inr ⟨h0, hf⟩)
        exact ldc_found X K.1 hkk hcf hcp hu hnm h0 hf (hb K.2.1 hd) hlt hTh
      | none =>
        exact ldc_new X K.1 ho w wS hkk hcf hcp hu hdec h0 hf (hb K.2.1 hd) hn hbig hc' hs' hTh hZ hlat
    · have hlt := hTh.2 _ hin _ k cf j units a ho hkk hcf hcp hu (Or.inl h0)
      exact ldc_res X K.1 hZ ho w hkk h0 (hb K.2.1 hd) hlt hTh
  obtain ⟨a, T', X', hS', E, hl, H', st⟩ := key
  subst eT
  obtain ⟨s₂, o, a1, a2⟩ := r T'.heap a E ⟨units, hdec, hl⟩ T' locs T'.vm _ X' (hS.trans hS' (Nat.le_trans hk E.1)) (Nat.le_refl _) (State.Warmed39.trans (t := s.setVm vm0) hZ hS'.1) (by rw [hS'.1.alike.findClass]; exact ho) rfl N H'
  exact ⟨s₂, o, st _ a1, a2⟩
/-- ldc of a String constant of which nothing is known but that it is there -/
theorem Go.ldcU (K : Cx0 bytes maxL ret mn p meth c) (hq : pc + 2 = q) {text : String} {i : Nat} (hcl : cl = []) (w : (Cond.stringLink own i text).before a0 Z = true) (wS : ∀ a ∈ Bundle.stringAtoms, a.before a0 Z = true) (hd : decode bytes pc = .ok (.ldc i, 2)) {n cells' slots' : Nat} (hn : 4 * text.toList.length ≤ n) (hbig : n ≤ 536870912) (hc : cells + 2 = cells') (hs : slots + (n + 4) = slots') (hc' : cells' ≤ R.cells) (hs' : slots' ≤ R.slots)
    (r : ∀ h' a, Ext h h' → Go p l e R s m args below meth c Z own cl xs0 n0 kc ks Q xs h' cells' slots' (mkF m q L (.ref a :: S))) : Go p l e R s m args below meth c Z own cl xs0 n0 kc ks Q xs h cells slots (mkF m pc L S) := fun T locs vm0 k0 X hS hk hZ ho eT N H => by
  subst hq hc hs
  obtain ⟨a, T', h', k1, X', eT', E, hS', hk', hZ', ho', st⟩ := Jvm.RoadKit.ldcS X K.1 hZ ho w wS eT hS hk (g := mkF m pc L S) rfl (hb K.2.1 hd) hn hbig hc' hs'
  obtain ⟨s₂, o, a1, a2⟩ := r h' a E T' locs T'.vm k1 X' hS' hk' hZ' ho' eT' N ⟨fun x hx => Nat.lt_of_lt_of_le (H.1 x hx) E.1, fun q hq => by subst hcl; cases hq⟩
  exact ⟨s₂, o, st _ a1, a2⟩
/-! calls -/
abbrev PreB (R : Room) (as' : Array Value) (h : Heap) (dc ds : Nat) : Pt → Array Value → Prop := fun A a => a = as' ∧ A.U.heap = h ∧ A.cells + dc ≤ R.cells ∧ A.slots + ds ≤ R.slots
abbrev PostB (QQ : Option Value → Heap → List Loc → Prop) (dc ds : Nat) : Pt → Array Value → Option Value → Pt → Prop := fun A _ v B => ∃ L, QQ v B.U.heap L ∧ B.locs = A.locs ++ L ∧ B.cells = A.cells + dc ∧ B.slots = A.slots + ds
theorem Go.bS (K : Cx0 bytes maxL ret mn p meth c) (hq : pc + 3 = q) {i : Nat} {y : MethodName} {bytes' : ByteArray} {maxL' : Nat} {ret' : Option FieldType} (w1 : (Cond.methodLink own i y).before a0 Z = true) (w2 : (Cond.static y).before a0 Z = true) (w3 : (Cond.initialized y.cls).before a0 Z = true) (w4 : (Cond.code y bytes' maxL' ret').before a0 Z = true) (hy : y.cls ≠ "java/lang/invoke/MethodHandle" ∧ y.cls ≠ "java/lang/invoke/VarHandle")
    {W dc ds cells' slots' : Nat} {as' : Array Value} {QQ : Option Value → Heap → List Loc → Prop} (B : ∀ s' : State, Z.Warmed39 s'.vm → Back l R p e below s' args y 3 W (PreB R as' h dc ds) (PostB QQ dc ds)) {sig : MethodDescriptor} (hsig : parseMethodDescriptor y.desc = some sig) {argsL rest : List Value} (has : as' = argsL.toArray) (hlen : argsL.length = sig.parameters.length) (hS : S = argsL.reverse ++ rest) (hsz : L.size = maxL) (hW : (rest.map fun v => v.category).sum ≤ W)
    (hd : decode bytes pc = .ok (.invokestatic i, 3)) (hc : cells + dc = cells') (hs : slots + ds = slots') (hc' : cells' ≤ R.cells) (hs' : slots' ≤ R.slots) (r : ∀ v h' L', QQ v h' L' → Fr n0 L' ∧ h.size ≤ h'.size ∧ ∃ xs', (∀ vm, Lits Z cl xs vm h → Lits Z cl xs' vm h') ∧ Go p l e R s m args below meth c Z own cl xs0 n0 kc ks Q xs' h' cells' slots' (mkF m q L (v.toList ++ rest))) : Go p l e R s m args below meth c Z own cl xs0 n0 kc ks Q xs h cells slots (mkF m pc L S) :=
  Go.of_heap (cells' := cells') (slots' := slots') K fun s' K T locs X eT N => by
    subst hq hc hs
    obtain ⟨v, vm₁, ⟨T', L', k', n'⟩, -, X', ⟨Lc, hQ, l1, l2, l3⟩, st⟩ := Jvm.LawKit.callS X K.1 (y := y) K.2.2.1 (mvT K.2.1 w1) (mvT K.2.1 w2) (mvT K.2.1 w3) (mvT K.2.1 w4) hy (B s' K.2.1) (g := mkF m pc L S) rfl (hsz.trans K.2.2.2.2.1.symm) (argsL := argsL) (rest := rest) (fun sg hg => by rw [hsig] at hg; cases hg; exact hlen) hS (by show 2 * 0 + _ ≤ _; omega) (hb K.2.2.2.1 hd) (fun _ _ => ⟨has.symm, eT, hc', hs'⟩)
    dsimp only [Pt.U, Pt.locs, Pt.cells, Pt.slots] at X' l1 l2 l3 st hQ
    subst l1 l2 l3
    obtain ⟨N', hsz', xs', HH, G⟩ := r v T'.heap Lc hQ
    exact ⟨T', T'.heap, _, _, xs', X', rfl, hsz', Fr.app N N', HH, st, G⟩
theorem Go.bI (K : Cx0 bytes maxL ret mn p meth c) (hq : pc + 3 = q) {i : Nat} {y : MethodName} {bytes' : ByteArray} {maxL' : Nat} (hyi : y.name = "<init>") (w1 : (Cond.methodLink own i y).before a0 Z = true) (w2 : (Cond.instanceMethod y).before a0 Z = true) (w4 : (Cond.code y bytes' maxL' none).before a0 Z = true) (hy : y.cls ≠ "java/lang/invoke/MethodHandle" ∧ y.cls ≠ "java/lang/invoke/VarHandle")
    {W dc ds cells' slots' : Nat} {as' : Array Value} {QQ : Option Value → Heap → List Loc → Prop} (B : ∀ s' : State, Z.Warmed39 s'.vm → Back l R p e below s' args y 3 W (PreB R as' h dc ds) (PostB QQ dc ds)) {sig : MethodDescriptor} (hsig : parseMethodDescriptor y.desc = some sig) {a : Addr} {argsL rest : List Value} (has : as' = (.ref a :: argsL).toArray) (hlen : argsL.length = sig.parameters.length) (hS : S = argsL.reverse ++ .ref a :: rest) (hsz : L.size = maxL) (hW : (rest.map fun v => v.category).sum ≤ W)
    (hd : decode bytes pc = .ok (.invokespecial i, 3)) (hc : cells + dc = cells') (hs : slots + ds = slots') (hc' : cells' ≤ R.cells) (hs' : slots' ≤ R.slots) (r : ∀ v h' L', QQ v h' L' → Fr n0 L' ∧ h.size ≤ h'.size ∧ ∃ xs', (∀ vm, Lits Z cl xs vm h → Lits Z cl xs' vm h') ∧ Go p l e R s m args below meth c Z own cl xs0 n0 kc ks Q xs' h' cells' slots' (mkF m q L (v.toList ++ rest))) : Go p l e R s m args below meth c Z own cl xs0 n0 kc ks Q xs h cells slots (mkF m pc L S) :=
  Go.of_heap (cells' := cells') (slots' := slots') K fun s' K T locs X eT N => by
    subst hq hc hs
    obtain ⟨v, vm₁, ⟨T', L', k', n'⟩, -, X', ⟨Lc, hQ, l1, l2, l3⟩, st⟩ := X.specialBack K.1 (y := y) hyi K.2.2.1 (mvT K.2.1 w1) (mvT K.2.1 w2) (mvT K.2.1 w4) hy (B s' K.2.1) (g := mkF m pc L S) rfl (hsz.trans K.2.2.2.2.1.symm) (Steps.refl _) (a := a) (argsL := argsL) (rest := rest) (fun sg hg => by rw [hsig] at hg; cases hg; exact hlen) hS (by show 2 * 0 + _ ≤ _; omega) (hb K.2.2.2.1 hd) (fun _ _ => ⟨has.symm, eT, hc', hs'⟩)
    dsimp only [Pt.U, Pt.locs, Pt.cells, Pt.slots] at X' l1 l2 l3 st hQ
    subst l1 l2 l3
    obtain ⟨N', hsz', xs', HH, G⟩ := r v T'.heap Lc hQ
    exact ⟨T', T'.heap, _, _, xs', X', rfl, hsz', Fr.app N N', HH, fun t k => st.trans k, G⟩
theorem Go.bV (K : Cx0 bytes maxL ret mn p meth c) (hq : pc + 3 = q) {i : Nat} {C : String} {y z : MethodName} (w1 : (Cond.methodLink own i y).before a0 Z = true) (w2 : (Cond.declares y).before a0 Z = true) (nf : ∀ s' : State, Z.Warmed39 s'.vm → NotFace s' y) (w3 : (Cond.selects C y z).before a0 Z = true) (w4 : (Cond.instanceMethod z).before a0 Z = true) (hy : y.cls ≠ "java/lang/invoke/MethodHandle" ∧ y.cls ≠ "java/lang/invoke/VarHandle")
    {W dc ds cells' slots' : Nat} {as' : Array Value} {QQ : Option Value → Heap → List Loc → Prop} (B : ∀ s' : State, Z.Warmed39 s'.vm → Back l R p e below s' args z 3 W (PreB R as' h dc ds) (PostB QQ dc ds)) {a : Addr} (E : Exa Z h a C) {sig : MethodDescriptor} (hsig : parseMethodDescriptor y.desc = some sig) {argsL rest : List Value} (has : as' = (.ref a :: argsL).toArray) (hlen : argsL.length = sig.parameters.length) (hS : S = argsL.reverse ++ .ref a :: rest) (hsz : L.size = maxL) (hW : (rest.map fun v => v.category).sum ≤ W)
    (hd : decode bytes pc = .ok (.invokevirtual i, 3)) (hc : cells + dc = cells') (hs : slots + ds = slots') (hc' : cells' ≤ R.cells) (hs' : slots' ≤ R.slots) (r : ∀ v h' L', QQ v h' L' → Fr n0 L' ∧ h.size ≤ h'.size ∧ ∃ xs', (∀ vm, Lits Z cl xs vm h → Lits Z cl xs' vm h') ∧ Go p l e R s m args below meth c Z own cl xs0 n0 kc ks Q xs' h' cells' slots' (mkF m q L (v.toList ++ rest))) : Go p l e R s m args below meth c Z own cl xs0 n0 kc ks Q xs h cells slots (mkF m pc L S) :=
  Go.of_heap (cells' := cells') (slots' := slots') K fun s' K T locs X eT N => by
    subst hq hc hs
    obtain ⟨cq, kq, qa, qb, qc⟩ := isOf K.2.1 eT E
    obtain ⟨v, vm₁, ⟨T', L', k', n'⟩, -, X', ⟨Lc, hQ, l1, l2, l3⟩, st⟩ := X.virtualBack K.1 (y := y) (z := z) K.2.2.1 (mvT K.2.1 w1) (mvT K.2.1 w2) (nf s' K.2.1) (mvT K.2.1 w3) (mvT K.2.1 w4) hy (B s' K.2.1) qa qc (g := mkF m pc L S) rfl (hsz.trans K.2.2.2.2.1.symm) (Steps.refl _) (argsL := argsL) (rest := rest) (fun sg hg => by rw [hsig] at hg; cases hg; exact hlen) hS (by show 2 * 0 + _ ≤ _; omega) (hb K.2.2.2.1 hd) (fun _ _ => ⟨has.symm, eT, hc', hs'⟩)
    dsimp only [Pt.U, Pt.locs, Pt.cells, Pt.slots] at X' l1 l2 l3 st hQ
    subst l1 l2 l3
    obtain ⟨N', hsz', xs', HH, G⟩ := r v T'.heap Lc hQ
    exact ⟨T', T'.heap, _, _, xs', X', rfl, hsz', Fr.app N N', HH, fun t k => st.trans k, G⟩
theorem nfS {C : String} {y : MethodName} (w3 : (Cond.selects C y y).before a0 Z = true) : ∀ s' : State, Z.Warmed39 s'.vm → NotFace s' y := fun s' hZ => notFace_of_selects (args := #[]) (mvT hZ w3)
theorem nfTop {y : MethodName} (w : (Cond.noSuperclass y.cls).before a0 Z = true) : ∀ s' : State, Z.Warmed39 s'.vm → NotFace s' y := fun s' hZ => nf_top (args := #[]) (mvT hZ w)
theorem nfSup {y : MethodName} {C : String} (w : (Cond.superclass y.cls C).before a0 Z = true) : ∀ s' : State, Z.Warmed39 s'.vm → NotFace s' y := fun s' hZ => nf_super (args := #[]) (mvT hZ w)
abbrev PreW (Z : State) (cl : List (String × Nat)) (xs : List Addr) (R : Room) (as' : Array Value) (h : Heap) (dc ds : Nat) : Pt → Array Value → Prop := fun A a => a = as' ∧ A.U.heap = h ∧ Lits Z cl xs A.U.vm h ∧ A.cells + dc ≤ R.cells ∧ A.slots + ds ≤ R.slots
abbrev PostW (Z : State) (cl : List (String × Nat)) (xs : List Addr) (n0 : Nat) (Q' : Option Value → Heap → Prop) (dc ds : Nat) : Pt → Array Value → Option Value → Pt → Prop := fun A _ v B => ∃ L, (Q' v B.U.heap ∧ Lits Z cl xs B.U.vm B.U.heap ∧ Fr n0 L) ∧ B.locs = A.locs ++ L ∧ B.cells = A.cells + dc ∧ B.slots = A.slots + ds
/-- a callee's contract as what pays a call -/
theorem Ctr.back {s' : State} (hZ : Z.Warmed39 s'.vm) {y : MethodName} {bytes' : ByteArray} {maxL' : Nat} {ret' : Option FieldType} {rm : Room} {as' : Array Value} {Q' : Option Value → Heap → Prop} {W : Nat} (C : Ctr l Z cl xs n0 y bytes' maxL' ret' [] rm as' h Q') (w4 : (Cond.code y bytes' maxL' ret').before a0 Z = true) (w3 : (Cond.initialized y.cls).before a0 Z = true) (hf : rm.frames + 1 ≤ R.frames) (hl : W + (maxL' + 11) + rm.locals ≤ R.locals) :
    BackS l R p e below s' args y 3 W (PreW Z cl xs R as' h rm.cells rm.slots) (PostW Z cl xs n0 Q' rm.cells rm.slots) :=
  BackS.of_freeW (bytes := bytes') (maxL := maxL') (ret := ret') (E := fun _ _ o t L k n => k = rm.cells ∧ n = rm.slots ∧ ∃ v, o = .returned v ∧ (Q' v t.heap ∧ Lits Z cl xs t.vm t.heap ∧ Fr n0 L)) C hf hl
    (fun m meth c A a Y hp => have hU : Z.Warmed39 A.U.vm := wtrans hZ Y.warmed
      ⟨by show (Cond.and _ .tt).before a A.U = true; rw [Cond.before_and, mv hU w4]; rfl, mv hU w4, mv hU w3, hp.2.2.2.1, hp.2.2.2.2⟩)
    (fun m meth c A a g mk Y hp => ⟨hp.1, wtrans hZ Y.warmed, hp.2.1, hp.2.2.1⟩) (fun _ _ _ _ _ _ _ _ _ => trivial)
    (fun _ _ _ _ ⟨v, L, h1, h2, h3⟩ => ⟨L, _, _, h3, rfl, rfl, v, h1, h2⟩)
    (fun m meth c A a g mk v t L k n Y hp _ _ ⟨e1, e2, v', e3, e4⟩ => by cases e3; subst e1 e2; exact ⟨L, e4, rfl, rfl, rfl⟩)
/-- behind a callee that may have loaded constants -/
theorem Go.behind {f f' : JFrame} {Q' : Option Value → Heap → Prop} {dc ds cells' slots' : Nat} {T : State} {locs : List Loc} {vm0 vm1 : Vm} {k0 : Nat} {B : Pt} {a : Array Value} {v : Option Value} (hk : k0 ≤ h.size) (eT : T.heap = h) (hSi : s.Since vm0 k0) (hZ : Z.Warmed39 vm0) (ho : vm0.findClass own = some m.cls) (N : Fr n0 locs) (hc : cells + dc = cells') (hs : slots + ds = slots')
    (X' : Stand p l e R ((s.setVm vm0).setVm B.U.vm) m args below meth c B.U B.locs B.cells B.slots) (hS' : (s.setVm vm0).Since B.U.vm B.U.heap.size) (hg : T.heap.size ≤ B.U.heap.size) (post : PostW Z cl xs n0 Q' dc ds ⟨T.setVm vm1, locs, cells, slots⟩ a v B) (st : Steps p.tables e below (T.setTop f) (B.U.setTop f')) (r : ∀ h', Q' v h' → h.size ≤ h'.size → Go p l e R s m args below meth c Z own cl xs0 n0 kc ks Q xs h' cells' slots' f') :
    ∃ s₂ o, Steps p.tables e below (T.setTop f) s₂ ∧ s₂.status = .running ∧ Ended s₂ below o ∧ ∃ v L, o = .returned v ∧ (Q v s₂.heap ∧ Lits Z cl xs0 s₂.vm s₂.heap ∧ Fr n0 L) ∧ ReturnedEndW s o s₂ L kc ks := by
  obtain ⟨B1, B2, B3, B4⟩ := B
  obtain ⟨Lc, ⟨hQ, HL, NL⟩, l1, l2, l3⟩ := post
  dsimp only [Pt.U, Pt.locs, Pt.cells, Pt.slots] at X' hS' hg l1 l2 l3 st hQ HL
  subst l1 l2 l3 hc hs
  obtain ⟨s₂, o, a1, a2⟩ := r B1.heap hQ (by rw [← eT]; exact hg) B1 _ B1.vm _ X' (hSi.trans hS' (Nat.le_trans hk (by rw [← eT]; exact hg))) (Nat.le_refl _) (State.Warmed39.trans (t := s.setVm vm0) hZ hS'.1) (by rw [hS'.1.alike.findClass]; exact ho) rfl (Fr.app N NL) HL
  exact ⟨s₂, o, st.trans a1, a2⟩
theorem Lits.warm {vm0 vm1 : Vm} (H : Lits Z cl xs vm0 h) (hW : (s.setVm vm0).WarmedH vm1) : Lits Z cl xs vm1 h := H.step (s := s.setVm vm0) rfl hW.wide (Or.inl hW.interned_eq)
/-- a static call by the callee's contract -/
theorem Go.cS (K : Cx0 bytes maxL ret mn p meth c) (hq : pc + 3 = q) {i : Nat} {y : MethodName} {bytes' : ByteArray} {maxL' : Nat} {ret' : Option FieldType} {rm : Room} {as' : Array Value} {Q' : Option Value → Heap → Prop} (C : Ctr l Z cl xs n0 y bytes' maxL' ret' [] rm as' h Q') (w1 : (Cond.methodLink own i y).before a0 Z = true) (w2 : (Cond.static y).before a0 Z = true) (w3 : (Cond.initialized y.cls).before a0 Z = true) (w4 : (Cond.code y bytes' maxL' ret').before a0 Z = true) (hy : y.cls ≠ "java/lang/invoke/MethodHandle" ∧ y.cls ≠ "java/lang/invoke/VarHandle")
    {sig : MethodDescriptor} (hsig : parseMethodDescriptor y.desc = some sig) {argsL rest : List Value} (has : as' = argsL.toArray) (hlen : argsL.length = sig.parameters.length) (hS : S = argsL.reverse ++ rest) (hsz : L.size = maxL) {W cells' slots' : Nat} (hW : (rest.map fun v => v.category).sum ≤ W) (hf : rm.frames + 1 ≤ R.frames) (hl : W + (maxL' + 11) + rm.locals ≤ R.locals)
    (hd : decode bytes pc = .ok (.invokestatic i, 3)) (hc : cells + rm.cells = cells') (hs : slots + rm.slots = slots') (hc' : cells' ≤ R.cells) (hs' : slots' ≤ R.slots) (r : ∀ v h', Q' v h' → h.size ≤ h'.size → Go p l e R s m args below meth c Z own cl xs0 n0 kc ks Q xs h' cells' slots' (mkF m q L (v.toList ++ rest))) : Go p l e R s m args below meth c Z own cl xs0 n0 kc ks Q xs h cells slots (mkF m pc L S) := fun T locs vm0 k0 X hSi hk hZ ho eT N H => by
  subst hq
  obtain ⟨v, vm₁, B, -, X', hS', hg, post, st⟩ := callSS X K.1 (y := y) ho (mvT hZ w1) (mvT hZ w2) (mvT hZ w3) (mvT hZ w4) hy (C.back (W := W) hZ w4 w3 hf hl) (g := mkF m pc L S) rfl (hsz.trans K.2.2.1.symm) (argsL := argsL) (rest := rest) (fun sg hg => by rw [hsig] at hg; cases hg; exact hlen) hS (by show 2 * 0 + _ ≤ _; omega) (hb K.2.1 hd) (fun vm₁ h₁ => ⟨has.symm, eT, H.warm h₁, by rw [hc]; exact hc', by rw [hs]; exact hs'⟩)
  exact Go.behind hk eT hSi hZ ho N hc hs X' hS' hg post st (r v)
/-- a constructor by its contract -/
theorem Go.cI (K : Cx0 bytes maxL ret mn p meth c) (hq : pc + 3 = q) {i : Nat} {y : MethodName} {bytes' : ByteArray} {maxL' : Nat} {rm : Room} {as' : Array Value} {Q' : Option Value → Heap → Prop} (C : Ctr l Z cl xs n0 y bytes' maxL' none [] rm as' h Q') (hyi : y.name = "<init>") (w1 : (Cond.methodLink own i y).before a0 Z = true) (w2 : (Cond.instanceMethod y).before a0 Z = true) (w3 : (Cond.initialized y.cls).before a0 Z = true) (w4 : (Cond.code y bytes' maxL' none).before a0 Z = true) (hy : y.cls ≠ "java/lang/invoke/MethodHandle" ∧ y.cls ≠ "java/lang/invoke/VarHandle")
    {sig : MethodDescriptor} (hsig : parseMethodDescriptor y.desc = some sig) {a : Addr} {argsL rest : List Value} (has : as' = (.ref a :: argsL).toArray) (hlen : argsL.length = sig.parameters.length) (hS : S = argsL.reverse ++ .ref a :: rest) (hsz : L.size = maxL) {W cells' slots' : Nat} (hW : (rest.map fun v => v.category).sum ≤ W) (hf : rm.frames + 1 ≤ R.frames) (hl : W + (maxL' + 11) + rm.locals ≤ R.locals)
    (hd : decode bytes pc = .ok (.invokespecial i, 3)) (hc : cells + rm.cells = cells') (hs : slots + rm.slots = slots') (hc' : cells' ≤ R.cells) (hs' : slots' ≤ R.slots) (r : ∀ v h', Q' v h' → h.size ≤ h'.size → Go p l e R s m args below meth c Z own cl xs0 n0 kc ks Q xs h' cells' slots' (mkF m q L (v.toList ++ rest))) : Go p l e R s m args below meth c Z own cl xs0 n0 kc ks Q xs h cells slots (mkF m pc L S) := fun T locs vm0 k0 X hSi hk hZ ho eT N H => by
  subst hq
  obtain ⟨v, vm₁, B, -, X', hS', hg, post, st⟩ := X.specialBackS K.1 (y := y) hyi ho (mvT hZ w1) (mvT hZ w2) (mvT hZ w4) hy (C.back (W := W) hZ w4 w3 hf hl) (g := mkF m pc L S) rfl (hsz.trans K.2.2.1.symm) (Steps.refl _) (a := a) (argsL := argsL) (rest := rest) (fun sg hg => by rw [hsig] at hg; cases hg; exact hlen) hS (by show 2 * 0 + _ ≤ _; omega) (hb K.2.1 hd) (fun vm₁ h₁ => ⟨has.symm, eT, H.warm h₁, by rw [hc]; exact hc', by rw [hs]; exact hs'⟩)
  exact Go.behind hk eT hSi hZ ho N hc hs X' hS' hg post st (r v)
/-- an instance method by its contract -/
theorem Go.cV (K : Cx0 bytes maxL ret mn p meth c) (hq : pc + 3 = q) {i : Nat} {C0 : String} {y z : MethodName} {bytes' : ByteArray} {maxL' : Nat} {ret' : Option FieldType} {rm : Room} {as' : Array Value} {Q' : Option Value → Heap → Prop} (C : Ctr l Z cl xs n0 z bytes' maxL' ret' [] rm as' h Q') (w1 : (Cond.methodLink own i y).before a0 Z = true) (w2 : (Cond.declares y).before a0 Z = true) (nf : ∀ s' : State, Z.Warmed39 s'.vm → NotFace s' y) (w3 : (Cond.selects C0 y z).before a0 Z = true) (w4 : (Cond.instanceMethod z).before a0 Z = true) (w5 : (Cond.initialized z.cls).before a0 Z = true) (w6 : (Cond.code z bytes' maxL' ret').before a0 Z = true) (hy : y.cls ≠ "java/lang/invoke/MethodHandle" ∧ y.cls ≠ "java/lang/invoke/VarHandle")
    {a : Addr} (E : Isa Z h a C0) {sig : MethodDescriptor} (hsig : parseMethodDescriptor y.desc = some sig) {argsL rest : List Value} (has : as' = (.ref a :: argsL).toArray) (hlen : argsL.length = sig.parameters.length) (hS : S = argsL.reverse ++ .ref a :: rest) (hsz : L.size = maxL) {W cells' slots' : Nat} (hW : (rest.map fun v => v.category).sum ≤ W) (hf : rm.frames + 1 ≤ R.frames) (hl : W + (maxL' + 11) + rm.locals ≤ R.locals)
    (hd : decode bytes pc = .ok (.invokevirtual i, 3)) (hc : cells + rm.cells = cells') (hs : slots + rm.slots = slots') (hc' : cells' ≤ R.cells) (hs' : slots' ≤ R.slots) (r : ∀ v h', Q' v h' → h.size ≤ h'.size → Go p l e R s m args below meth c Z own cl xs0 n0 kc ks Q xs h' cells' slots' (mkF m q L (v.toList ++ rest))) : Go p l e R s m args below meth c Z own cl xs0 n0 kc ks Q xs h cells slots (mkF m pc L S) := fun T locs vm0 k0 X hSi hk hZ ho eT N H => by
  subst hq
  obtain ⟨cq, kq, qa, qb, qc⟩ := isOf1 (s := s.setVm vm0) hZ eT E
  obtain ⟨v, vm₁, B, -, X', hS', hg, post, st⟩ := X.virtualBackS K.1 (y := y) (z := z) ho (mvT hZ w1) (mvT hZ w2) (nf (s.setVm vm0) hZ) (mvT hZ w3) (mvT hZ w4) hy (C.back (W := W) hZ w6 w5 hf hl) qa qc (g := mkF m pc L S) rfl (hsz.trans K.2.2.1.symm) (Steps.refl _) (argsL := argsL) (rest := rest) (fun sg hg => by rw [hsig] at hg; cases hg; exact hlen) hS (by show 2 * 0 + _ ≤ _; omega) (hb K.2.1 hd) (fun vm₁ h₁ => ⟨has.symm, eT, H.warm h₁, by rw [hc]; exact hc', by rw [hs]; exact hs'⟩)
  exact Go.behind hk eT hSi hZ ho N hc hs X' hS' hg post st (r v)
end Rules
theorem notsub {Z : State} {a0 : Array Value} {C S K : String} {n : Nat} (w : (Cond.superclass C S).before a0 Z = true) (wn : (Cond.noSuperclass S).before a0 Z = true) (wk : (Cond.instantiable K n).before a0 Z = true) (h1 : C ≠ K) (h2 : S ≠ K) : ∃ c t, Z.vm.findClass C = some c ∧ Z.vm.findClass K = some t ∧ Z.vm.assignable c t = false := by
  obtain ⟨t, kt, g1, g2, g3, g4, -⟩ := Cond.instantiable_spec wk
  obtain ⟨c0, k0, m1, m2, m3, -, -⟩ := Cond.noSuperclass_spec wn
  obtain ⟨c, h0⟩ := found_sup w
  obtain ⟨p, k, kp, s1, s2, s3, s4, s5, -, s7⟩ := Cond.superclass_spec h0 w
  cases m1.symm.trans s1
  have e1 := ids_ne h0 g1 h1
  have e2 := ids_ne m1 g1 h2
  have g5 : kt.isInterface = false := by cases q : kt.isInterface <;> simp_all
  have sub : ∀ fuel, Z.vm.isSubclassAux fuel c t = false := fun fuel => by
    cases fuel with
    | zero => rfl
    | succ f =>
      cases f with
      | zero => simp [Vm.isSubclassAux, e1, s2, s4]
      | succ f => simp [Vm.isSubclassAux, e1, s2, s4, e2, m2, m3]
  refine ⟨c, t, h0, g1, ?_⟩
  show Z.vm.assignableAux (255 + 1) c t = false
  simp [Vm.assignableAux, e1, s2, g2, s5, g3, g5, Vm.isSubclass, sub]
/-! what is carried -/
theorem Ext.refl (h : Heap) : Ext h h := ⟨Nat.le_refl _, fun _ _ q => q⟩
theorem Ext.trans {h0 h h' : Heap} (E : Ext h0 h) (E' : Ext h h') : Ext h0 h' := ⟨Nat.le_trans E.1 E'.1, fun a c q => E'.2 a c (E.2 a c q)⟩
theorem Ext.keep {h0 h h' : Heap} {ws : List Addr} (E : Ext h0 h) (K : Keep h h' ws) (q : ∀ x ∈ ws, h0.size ≤ x) : Ext h0 h' :=
  ⟨Nat.le_trans E.1 K.1, fun a c r => K.2.1 a c (E.2 a c r) fun z => absurd (Array.getElem?_eq_some_iff.mp r).1 (Nat.not_lt.mpr (q a z))⟩
theorem Ext.wr {h0 h h' : Heap} {a : Addr} {sl : Nat} {v : Value} (E : Ext h0 h) (W : Wr h h' a sl v) (q : h0.size ≤ a) : Ext h0 h' := Ext.keep E (Keep.of_wr W) (allS q all0)
theorem Ext.of_keep {h h' : Heap} (K : Keep h h' []) : Ext h h' := ⟨K.1, fun a c q => K.2.1 a c q nin0⟩
theorem Ext.sta {Z : State} {h h' : Heap} {C n d : String} {v : Value} (E : Ext h h') (F : Sta Z h C n d v) : Sta Z h' C n d v := F.ext E
end Jvm.Pilot.@@N@@.W
/- laws to paste: Road.backV, Road.eqW, Road.lenW, Road.chN, Road.codOf (cut by pick.py; bodies as the Statement names them) -/
namespace Jvm.Pilot.@@N@@
namespace StrChars
open Jvm Sem ClassFile Op Lib Jvm.Stand Jvm.Free.XT Jvm.Free.ALB Jvm.Free.JM Jvm.Free
open Jvm.Lib.Cold (StaticIs)
/-- a char array whose places are chars -/
def Ch (a : Addr) (A : Cell) (U : State) : Prop := Arr .char a A U ∧ Typed .char A
theorem Ch.mv {a : Addr} {A : Cell} {U U' : State} (h : Ch a A U) (hal : U.vm.Alike U'.vm) (hh : U'.heap = U.heap) : Ch a A U' := ⟨h.1.mv hal hh, h.2⟩
theorem Ch.keep {a : Addr} {A : Cell} {U U' : State} (h : Ch a A U) (hal : U.vm.Alike U'.vm) (hk : U'.heap[a]? = some A) : Ch a A U' := ⟨h.1.keep hal hk, h.2⟩
/-- what place i of a char[]'s cell holds -/
def cv (A : Cell) (i : Nat) : Int32 := match A.slots[i]? with | some (.int x) => x | _ => 0
theorem Ch.get {a : Addr} {A : Cell} {U : State} (h : Ch a A U) {i : Nat} (hi : i < A.slots.size) : A.slots[i]? = some (.int (cv A i)) := by
  have e := Array.getElem?_eq_getElem hi
  have f := h.2 i _ e
  unfold cv; rw [e]
  generalize A.slots[i] = v at f
  cases v <;> simp [fits] at f ⊢
/-- the byte that i2b leaves of a char -/
def lo8 (x : Int32) : Int32 := x.toInt8.toInt32
theorem fits_lo8 (y : Int32) : fits .byte (.int (lo8 y)) = true := by
  have h1 := y.toInt8.le_toInt
  have h2 := y.toInt8.toInt_lt
  simp only [lo8, fits, Bool.and_eq_true, decide_eq_true_eq, Int32.le_iff_toInt_le, Int8.toInt_toInt32, show (-128 : Int32).toInt = -128 from by decide, show (127 : Int32).toInt = 127 from by decide]
  omega
/-- A' is A but that each place j of lo .. hi - 1 holds f j -/
def Laid (A A' : Cell) (lo hi : Nat) (f : Nat → Value) : Prop := A'.cls = A.cls ∧ A'.vm = A.vm ∧ A'.slots.size = A.slots.size ∧ ∀ i, A'.slots[i]? = if lo ≤ i ∧ i < hi then some (f i) else A.slots[i]?
theorem Laid.zero (A : Cell) (lo : Nat) (f : Nat → Value) : Laid A A lo (lo + 0) f := ⟨rfl, rfl, rfl, fun i => by rw [if_neg (by omega)]⟩
theorem Laid.step {A Ak : Cell} {lo k : Nat} {f : Nat → Value} {v : Value} (h : Laid A Ak lo k f) (hlo : lo ≤ k) (hk : k < Ak.slots.size) (hv : v = f k) : Laid A (Ak.setSlot k v) lo (k + 1) f := by
  refine ⟨h.1, h.2.1, by simpa [Cell.setSlot] using h.2.2.1, fun i => ?_⟩
  by_cases e : k = i
  · subst e; rw [Cell.slots_setSlot_self v hk, if_pos (by omega), hv]
  · rw [Cell.slots_setSlot_ne v e, h.2.2.2 i]
    by_cases q : lo ≤ i ∧ i < k
    · rw [if_pos q, if_pos (by omega)]
    · rw [if_neg q, if_neg (by omega)]
def U16 : String := "java/lang/StringUTF16"
namespace Cmp5
def yN : MethodName := ⟨"java/lang/StringUTF16", "compress", "([CI[BII)I"⟩
abbrev yB : ByteArray := jdk_52_method_21_code
theorem d0 : decode yB 0 = .ok (.iconst 0, 1) := by decide +kernel
theorem d1 : decode yB 1 = .ok (.istore 5, 2) := by decide +kernel
theorem d3 : decode yB 3 = .ok (.iload 5, 2) := by decide +kernel
theorem d5 : decode yB 5 = .ok (.iload 4, 2) := by decide +kernel
theorem d7 : decode yB 7 = .ok (.if_icmp (.ge) 37, 3) := by decide +kernel
theorem d10 : decode yB 10 = .ok (.aload_n 0, 1) := by decide +kernel
theorem d11 : decode yB 11 = .ok (.iload_n 1, 1) := by decide +kernel
theorem d12 : decode yB 12 = .ok (.caload, 1) := by decide +kernel
theorem d13 : decode yB 13 = .ok (.istore 6, 2) := by decide +kernel
theorem d15 : decode yB 15 = .ok (.iload 6, 2) := by decide +kernel
theorem d17 : decode yB 17 = .ok (.sipush 255, 3) := by decide +kernel
theorem d20 : decode yB 20 = .ok (.if_icmp (.le) 6, 3) := by decide +kernel
theorem d26 : decode yB 26 = .ok (.aload_n 2, 1) := by decide +kernel
theorem d27 : decode yB 27 = .ok (.iload_n 3, 1) := by decide +kernel
theorem d28 : decode yB 28 = .ok (.iload 6, 2) := by decide +kernel
theorem d30 : decode yB 30 = .ok (.i2b, 1) := by decide +kernel
theorem d31 : decode yB 31 = .ok (.bastore, 1) := by decide +kernel
theorem d32 : decode yB 32 = .ok (.iinc 1 1, 3) := by decide +kernel
theorem d35 : decode yB 35 = .ok (.iinc 3 1, 3) := by decide +kernel
theorem d38 : decode yB 38 = .ok (.iinc 5 1, 3) := by decide +kernel
theorem d41 : decode yB 41 = .ok (.goto (-38), 3) := by decide +kernel
theorem d44 : decode yB 44 = .ok (.iload 4, 2) := by decide +kernel
theorem d46 : decode yB 46 = .ok (.ireturn, 1) := by decide +kernel
def site : List Cond := []
def tab : Cond := tabOf yN yB 7 (some .int) site
def P (b : Addr) (A : Cell) (d : Addr) (B : Cell) (o q len : Nat) (args : Array Value) (s : State) : Prop := args = #[.ref b, .int (Int32.ofNat o), .ref d, .int (Int32.ofNat q), .int (Int32.ofNat len)] ∧ Ch b A s ∧ Arr .byte d B s ∧ b ≠ d ∧ o + len ≤ A.slots.size ∧ q + len ≤ B.slots.size ∧ ∀ i, i < len → ¬ 255 < cv A (o + i)
def E (b : Addr) (A : Cell) (d : Addr) (B : Cell) (o q len : Nat) (r : Option Value) (s u : State) : Prop := r = some (.int (Int32.ofNat len)) ∧ ∃ B', Put d B' s u ∧ Laid B B' q (q + len) (fun j => Value.int (lo8 (cv A (o + (j - q)))))
/-- no char of the range above 255: len; the places written hold each char's low byte -/
theorem law (l : Launch) (b : Addr) (A : Cell) (d : Addr) (B : Cell) (o q len : Nat) : Law l yN 5 5 0 0 yB 7 (some .int) site (P b A d B o q len) (E b A d B o q len) (copyLocs d q len) 0 0 := by
  refine Law.of_walk (plainFor_of_name (by decide +kernel)) (by decide +kernel) (by decide +kernel) (by decide) (fun _ _ h => by rw [h.1]; rfl) (fun _ U U' hal hh h => ⟨h.1, h.2.1.mv hal hh, h.2.2.1.mv hal hh, h.2.2.2⟩) (fun r U U' V V' h1 hal h2 h => ⟨h.1, h.2.elim fun B' q => ⟨B', q.1.mv h1 h2, q.2⟩⟩) ?_
  intro p e s m args below meth c s₁ X0 hexec hbytes hml hret hlk hnm hown hh0 W hP
  obtain ⟨rfl, hA, hB, hne, l1, l2, hp⟩ := hP
  have c1 : Steps p.tables e below (s₁.setTop (entryFrame m #[.ref b, .int (Int32.ofNat o), .ref d, .int (Int32.ofNat q), .int (Int32.ofNat len)] 7)) (s₁.setTop (mkF m 0 #[.val (.ref b), .val (.int (Int32.ofNat o)), .val (.ref d), .val (.int (Int32.ofNat q)), .val (.int (Int32.ofNat len)), .unset, .unset] [])) := entry rfl
  have hA0 := hA.1.mv X0.warmed.alike hh0
  have hB0 := hB.mv X0.warmed.alike hh0
  have a31 := hA.1.2.2.2
  have c2 : Steps p.tables e below (s₁.setTop (entryFrame m #[.ref b, .int (Int32.ofNat o), .ref d, .int (Int32.ofNat q), .int (Int32.ofNat len)] 7)) (s₁.setTop (mkF m 3 #[.val (.ref b), .val (.int (Int32.ofNat o)), .val (.ref d), .val (.int (Int32.ofNat q)), .val (.int (Int32.ofNat len)), .val (.int 0), .unset] [])) := c1.trans (by
    refine iconstV X0.here hexec rfl 0 (hb hbytes d0) (by decide) ?_
    refine XS.istore X0.here hexec rfl (hb hbytes d1) rfl rfl ?_
    exact Steps.refl _)
  have loop : ∀ (r i : Nat), i + r = len → ∀ (z : Slot), (z = .unset ∨ ∃ w, z = .val w ∧ w.category = 1) → ∀ (Tl : State) (Bk : Cell), Stand p l e { frames := 0, locals := 0, cells := 0, slots := 0 } s m #[.ref b, .int (Int32.ofNat o), .ref d, .int (Int32.ofNat q), .int (Int32.ofNat len)] below meth c Tl ([] ++ copyLocs d q i) 0 0 → Put d Bk s₁ Tl → Laid B Bk q (q + i) (fun j => Value.int (lo8 (cv A (o + (j - q))))) →
      Steps p.tables e below (s₁.setTop (entryFrame m #[.ref b, .int (Int32.ofNat o), .ref d, .int (Int32.ofNat q), .int (Int32.ofNat len)] 7)) (Tl.setTop (mkF m 3 #[.val (.ref b), .val (.int (Int32.ofNat (o + i))), .val (.ref d), .val (.int (Int32.ofNat (q + i))), .val (.int (Int32.ofNat len)), .val (.int (Int32.ofNat i)), z] [])) → ∃ (T' : State) (B' : Cell) (z' : Slot), Stand p l e { frames := 0, locals := 0, cells := 0, slots := 0 } s m #[.ref b, .int (Int32.ofNat o), .ref d, .int (Int32.ofNat q), .int (Int32.ofNat len)] below meth c T' ([] ++ copyLocs d q len) 0 0 ∧ Put d B' s₁ T' ∧ Laid B B' q (q + len) (fun j => Value.int (lo8 (cv A (o + (j - q))))) ∧
      Steps p.tables e below (s₁.setTop (entryFrame m #[.ref b, .int (Int32.ofNat o), .ref d, .int (Int32.ofNat q), .int (Int32.ofNat len)] 7)) (T'.setTop (mkF m 3 #[.val (.ref b), .val (.int (Int32.ofNat (o + len))), .val (.ref d), .val (.int (Int32.ofNat (q + len))), .val (.int (Int32.ofNat len)), .val (.int (Int32.ofNat len)), z'] [])) := by
    intro r
    induction r with
    | zero =>
      intro i hi z hz Tl Bk Xl pl fl cl
      have hil : i = len := by omega
      rw [hil] at Xl fl cl
      exact ⟨Tl, Bk, z, Xl, pl, fl, cl⟩
    | succ r ih =>
      intro i hi z hz Tl Bk Xl pl fl cl
      have all := X0.warmed.alike.symm.trans Xl.warmed.alike
      have hAl := hA0.keep all (pl.other hne hA0.1)
      have hBk := hB0.like all pl.1 fl.1 fl.2.1 fl.2.2.1
      have hlt : q + i < Bk.slots.size := by rw [fl.2.2.1]; omega
      have c3 : Steps p.tables e below (s₁.setTop (entryFrame m #[.ref b, .int (Int32.ofNat o), .ref d, .int (Int32.ofNat q), .int (Int32.ofNat len)] 7)) (Tl.setTop (mkF m 12 #[.val (.ref b), .val (.int (Int32.ofNat (o + i))), .val (.ref d), .val (.int (Int32.ofNat (q + i))), .val (.int (Int32.ofNat len)), .val (.int (Int32.ofNat i)), z] [.int (Int32.ofNat (o + i)), .ref b])) := cl.trans (by
        refine XS.iload Xl.here hexec rfl (hb hbytes d3) rfl ?_
        refine XS.iload Xl.here hexec rfl (hb hbytes d5) rfl ?_
        refine XS.icmpNo Xl.here hexec rfl (hb hbytes d7) rfl (ii_ge_f (lt32 (by omega) (by omega))) ?_
        refine XS.aloadN Xl.here hexec rfl (hb hbytes d10) rfl rfl ?_
        refine XS.iloadN Xl.here hexec rfl (hb hbytes d11) rfl ?_
        exact Steps.refl _)
      have c4 : Steps p.tables e below (s₁.setTop (entryFrame m #[.ref b, .int (Int32.ofNat o), .ref d, .int (Int32.ofNat q), .int (Int32.ofNat len)] 7)) (Tl.setTop (mkF m 13 #[.val (.ref b), .val (.int (Int32.ofNat (o + i))), .val (.ref d), .val (.int (Int32.ofNat (q + i))), .val (.int (Int32.ofNat len)), .val (.int (Int32.ofNat i)), z] [.int (cv A (o + i))])) := c3.trans (by
        refine Xl.aget hexec hAl rfl (hA.get (i := o + i) (by omega)) rfl rfl (hb hbytes d12) ?_
        exact Steps.refl _)
      have c5 : Steps p.tables e below (s₁.setTop (entryFrame m #[.ref b, .int (Int32.ofNat o), .ref d, .int (Int32.ofNat q), .int (Int32.ofNat len)] 7)) (Tl.setTop (mkF m 15 #[.val (.ref b), .val (.int (Int32.ofNat (o + i))), .val (.ref d), .val (.int (Int32.ofNat (q + i))), .val (.int (Int32.ofNat len)), .val (.int (Int32.ofNat i)), .val (.int (cv A (o + i)))] [])) := c4.trans (by
        refine XS.istoreS Xl.here hexec rfl (hb hbytes d13) rfl rfl hz ?_
        exact Steps.refl _)
      have c6 : Steps p.tables e below (s₁.setTop (entryFrame m #[.ref b, .int (Int32.ofNat o), .ref d, .int (Int32.ofNat q), .int (Int32.ofNat len)] 7)) (Tl.setTop (mkF m 31 #[.val (.ref b), .val (.int (Int32.ofNat (o + i))), .val (.ref d), .val (.int (Int32.ofNat (q + i))), .val (.int (Int32.ofNat len)), .val (.int (Int32.ofNat i)), .val (.int (cv A (o + i)))] [.int (lo8 (cv A (o + i))), .int (Int32.ofNat (q + i)), .ref d])) := c5.trans (by
        refine XS.iload Xl.here hexec rfl (hb hbytes d15) rfl ?_
        refine sipushV Xl.here hexec rfl 255 (hb hbytes d17) (by decide) ?_
        refine XS.icmpYes Xl.here hexec rfl (pc0 := 20) rfl (hb hbytes d20) rfl (ii_le_t (hp i (by omega))) (by decide) rfl ?_
        refine XS.aloadN Xl.here hexec rfl (hb hbytes d26) rfl rfl ?_
        refine XS.iloadN Xl.here hexec rfl (hb hbytes d27) rfl ?_
        refine XS.iload Xl.here hexec rfl (hb hbytes d28) rfl ?_
        refine i2b Xl.here hexec rfl (hb hbytes d30) rfl ?_
        exact Steps.refl _)
      obtain ⟨T7, X7, p7, st7⟩ := Xl.aput hexec hBk rfl hlt rfl (fits_lo8 (cv A (o + i))) (g := (mkF m 31 #[.val (.ref b), .val (.int (Int32.ofNat (o + i))), .val (.ref d), .val (.int (Int32.ofNat (q + i))), .val (.int (Int32.ofNat len)), .val (.int (Int32.ofNat i)), .val (.int (cv A (o + i)))] [.int (lo8 (cv A (o + i))), .int (Int32.ofNat (q + i)), .ref d])) rfl (rest := []) rfl (hb hbytes d31)
      have c8 : Steps p.tables e below (s₁.setTop (entryFrame m #[.ref b, .int (Int32.ofNat o), .ref d, .int (Int32.ofNat q), .int (Int32.ofNat len)] 7)) (T7.setTop (mkF m 32 #[.val (.ref b), .val (.int (Int32.ofNat (o + i))), .val (.ref d), .val (.int (Int32.ofNat (q + i))), .val (.int (Int32.ofNat len)), .val (.int (Int32.ofNat i)), .val (.int (cv A (o + i)))] [])) := c6.trans (st7 _ (Steps.refl _))
      have c9 : Steps p.tables e below (s₁.setTop (entryFrame m #[.ref b, .int (Int32.ofNat o), .ref d, .int (Int32.ofNat q), .int (Int32.ofNat len)] 7)) (T7.setTop (mkF m 3 #[.val (.ref b), .val (.int (Int32.ofNat (o + i) + 1)), .val (.ref d), .val (.int (Int32.ofNat (q + i) + 1)), .val (.int (Int32.ofNat len)), .val (.int (Int32.ofNat i + 1)), .val (.int (cv A (o + i)))] [])) := c8.trans (by
        refine iincV X7.here hexec rfl 1 (hb hbytes d32) (by decide) rfl rfl ?_
        refine iincV X7.here hexec rfl 1 (hb hbytes d35) (by decide) rfl rfl ?_
        refine iincV X7.here hexec rfl 1 (hb hbytes d38) (by decide) rfl rfl ?_
        refine XS.goto X7.here hexec rfl (pc0 := 41) rfl (hb hbytes d41) (by decide) rfl ?_
        exact Steps.refl _)
      have c10 : Steps p.tables e below (s₁.setTop (entryFrame m #[.ref b, .int (Int32.ofNat o), .ref d, .int (Int32.ofNat q), .int (Int32.ofNat len)] 7)) (T7.setTop (mkF m 3 #[.val (.ref b), .val (.int (Int32.ofNat (o + (i + 1)))), .val (.ref d), .val (.int (Int32.ofNat (q + (i + 1)))), .val (.int (Int32.ofNat len)), .val (.int (Int32.ofNat (i + 1))), .val (.int (cv A (o + i)))] [])) := by
        have := c9
        rw [succ32, succ32, succ32] at this
        exact this
      exact ih (i + 1) (by omega) _ (Or.inr ⟨_, rfl, rfl⟩) T7 _ (by rw [copyLocs_step, ← List.append_assoc]; exact X7) (pl.trans p7) (fl.step (by omega) hlt (by simp)) c10
  obtain ⟨T9, B9, z9, X9, p9, f9, g9⟩ := loop len 0 (by omega) .unset (Or.inl rfl) s₁ B (by simpa [copyLocs] using X0) ⟨hB0.1, fun _ _ => rfl, rfl⟩ (Laid.zero _ _ _) c2
  have c11 : Steps p.tables e below (s₁.setTop (entryFrame m #[.ref b, .int (Int32.ofNat o), .ref d, .int (Int32.ofNat q), .int (Int32.ofNat len)] 7)) (T9.setTop (mkF m 46 #[.val (.ref b), .val (.int (Int32.ofNat (o + len))), .val (.ref d), .val (.int (Int32.ofNat (q + len))), .val (.int (Int32.ofNat len)), .val (.int (Int32.ofNat len)), z9] [.int (Int32.ofNat len)])) := g9.trans (by
    refine XS.iload X9.here hexec rfl (hb hbytes d3) rfl ?_
    refine XS.iload X9.here hexec rfl (hb hbytes d5) rfl ?_
    refine XS.icmpYes X9.here hexec rfl (pc0 := 7) rfl (hb hbytes d7) rfl (ii_ge_t (nlt32 (by omega) (Nat.le_refl _))) (by decide) rfl ?_
    refine XS.iload X9.here hexec rfl (hb hbytes d44) rfl ?_
    exact Steps.refl _)
  exact ⟨T9, some (.int (Int32.ofNat len)), _, _, _, X9, by simp, rfl, rfl, (fun h => by cases h), ⟨rfl, B9, p9.from hh0, f9⟩, fun fs hl => c11.trans (X9.ireturnOut hexec hret rfl (Or.inl rfl) (hb hbytes d46) hl)⟩
end Cmp5
namespace Cmp3
def yN : MethodName := ⟨"java/lang/StringUTF16", "compress", "([CII)[B"⟩
abbrev yB : ByteArray := jdk_52_method_16_code
theorem d0 : decode yB 0 = .ok (.iload_n 2, 1) := by decide +kernel
theorem d1 : decode yB 1 = .ok (.newarray .byte, 2) := by decide +kernel
theorem d3 : decode yB 3 = .ok (.astore_n 3, 1) := by decide +kernel
theorem d4 : decode yB 4 = .ok (.aload_n 0, 1) := by decide +kernel
theorem d5 : decode yB 5 = .ok (.iload_n 1, 1) := by decide +kernel
theorem d6 : decode yB 6 = .ok (.aload_n 3, 1) := by decide +kernel
theorem d7 : decode yB 7 = .ok (.iconst 0, 1) := by decide +kernel
theorem d8 : decode yB 8 = .ok (.iload_n 2, 1) := by decide +kernel
theorem d9 : decode yB 9 = .ok (.invokestatic 115, 3) := by decide +kernel
theorem d12 : decode yB 12 = .ok (.istore 4, 2) := by decide +kernel
theorem d14 : decode yB 14 = .ok (.iload 4, 2) := by decide +kernel
theorem d16 : decode yB 16 = .ok (.iload_n 2, 1) := by decide +kernel
theorem d17 : decode yB 17 = .ok (.if_icmp (.eq) 40, 3) := by decide +kernel
theorem d57 : decode yB 57 = .ok (.aload_n 3, 1) := by decide +kernel
theorem d58 : decode yB 58 = .ok (.areturn, 1) := by decide +kernel
def site : List Cond := [.arrayClass .byte, Cmp5.tab] ++ staticW U16 115 Cmp5.yN
def tab : Cond := tabOf yN yB 6 (some (.array .byte)) site
def P (b : Addr) (A : Cell) (o len : Nat) (args : Array Value) (s : State) : Prop := args = #[.ref b, .int (Int32.ofNat o), .int (Int32.ofNat len)] ∧ Ch b A s ∧ o + len ≤ A.slots.size ∧ len ≤ 536870912 ∧ ∀ i, i < len → ¬ 255 < cv A (o + i)
def E (b : Addr) (A : Cell) (o len : Nat) (r : Option Value) (s u : State) : Prop := NewArr .byte "[B" len (fun j => .int (lo8 (cv A (o + j)))) r s u ∧ u.heap.size = s.heap.size + 1
/-- no char of the range above 255: a new byte[] of their low bytes -/
theorem law (l : Launch) (b : Addr) (A : Cell) (o len : Nat) : Law l yN 3 3 1 18 yB 6 (some (.array .byte)) site (P b A o len) (E b A o len) [] 1 len := by
  refine Law.of_walk (plainFor_of_name (by decide +kernel)) (by decide +kernel) (by decide +kernel) (by decide) (fun _ _ h => by rw [h.1]; rfl) (fun _ U U' hal hh h => ⟨h.1, h.2.1.mv hal hh, h.2.2⟩) (fun r U U' V V' h1 hal h2 h => ⟨NewArr.mv r U U' V V' h1 hal h2 h.1, by rw [h1, h2]; exact h.2⟩) ?_
  intro p e s m args below meth c s₁ X0 hexec hbytes hml hret hlk hnm hown hh0 W hP
  obtain ⟨rfl, hA, l1, l2, hp⟩ := hP
  have a31 := hA.1.2.2.2
  have c1 : Steps p.tables e below (s₁.setTop (entryFrame m #[.ref b, .int (Int32.ofNat o), .int (Int32.ofNat len)] 6)) (s₁.setTop (mkF m 0 #[.val (.ref b), .val (.int (Int32.ofNat o)), .val (.int (Int32.ofNat len)), .unset, .unset, .unset] [])) := entry rfl
  have c2 : Steps p.tables e below (s₁.setTop (entryFrame m #[.ref b, .int (Int32.ofNat o), .int (Int32.ofNat len)] 6)) (s₁.setTop (mkF m 1 #[.val (.ref b), .val (.int (Int32.ofNat o)), .val (.int (Int32.ofNat len)), .unset, .unset, .unset] [.int (Int32.ofNat len)])) := c1.trans (by
    refine XS.iloadN X0.here hexec rfl (hb hbytes d0) rfl ?_
    exact Steps.refl _)
  obtain ⟨T3, B3, X3, ba3, bs3, bv3, bh3, bf3, st3⟩ := X0.anew hexec (atype := .byte) (wk W (.arrayClass .byte)) rfl (by show len * 1 ≤ _; omega) (by omega) (g := (mkF m 1 #[.val (.ref b), .val (.int (Int32.ofNat o)), .val (.int (Int32.ofNat len)), .unset, .unset, .unset] [.int (Int32.ofNat len)])) rfl (hb hbytes d1) (rest := []) rfl (Nat.le_refl _) (by show 0 + len ≤ len; omega)
  rw [hh0] at ba3 st3
  have kp3 : XT.Kept s T3 := (XT.Kept.of_eq hh0).push bh3
  have hA3 := hA.keep X3.warmed.alike (kp3 _ _ hA.1.1)
  have hne : b ≠ s.heap.size := hA.1.ne
  have c4 : Steps p.tables e below (s₁.setTop (entryFrame m #[.ref b, .int (Int32.ofNat o), .int (Int32.ofNat len)] 6)) (T3.setTop (mkF m 3 #[.val (.ref b), .val (.int (Int32.ofNat o)), .val (.int (Int32.ofNat len)), .unset, .unset, .unset] [.ref s.heap.size])) := c2.trans (st3 _ (Steps.refl _))
  have c5 : Steps p.tables e below (s₁.setTop (entryFrame m #[.ref b, .int (Int32.ofNat o), .int (Int32.ofNat len)] 6)) (T3.setTop (mkF m 9 #[.val (.ref b), .val (.int (Int32.ofNat o)), .val (.int (Int32.ofNat len)), .val (.ref s.heap.size), .unset, .unset] [.int (Int32.ofNat len), .int 0, .ref s.heap.size, .int (Int32.ofNat o), .ref b])) := c4.trans (by
    refine XS.astoreN X3.here hexec rfl (hb hbytes d3) rfl rfl rfl ?_
    refine XS.aloadN X3.here hexec rfl (hb hbytes d4) rfl rfl ?_
    refine XS.iloadN X3.here hexec rfl (hb hbytes d5) rfl ?_
    refine XS.aloadN X3.here hexec rfl (hb hbytes d6) rfl rfl ?_
    refine iconstV X3.here hexec rfl 0 (hb hbytes d7) (by decide) ?_
    refine XS.iloadN X3.here hexec rfl (hb hbytes d8) rfl ?_
    exact Steps.refl _)
  obtain ⟨v6, T6, X6, E6, g6⟩ := X3.callS hexec (Cmp5.law l b A s.heap.size B3 o 0 len) hown (wks W (staticW U16 115 Cmp5.yN)) (wk W Cmp5.tab) (W := 0) (Nat.le_of_ble_eq_true rfl) (Nat.le_of_ble_eq_true rfl) (Nat.le_refl _) (by show 0 + len + 0 ≤ len; omega) (g := (mkF m 9 #[.val (.ref b), .val (.int (Int32.ofNat o)), .val (.int (Int32.ofNat len)), .val (.ref s.heap.size), .unset, .unset] [.int (Int32.ofNat len), .int (Int32.ofNat 0), .ref s.heap.size, .int (Int32.ofNat o), .ref b])) rfl (by rw [hml]; rfl) c5 (argsL := [.ref b, .int (Int32.ofNat o), .ref s.heap.size, .int (Int32.ofNat 0), .int (Int32.ofNat len)]) (rest := []) rfl rfl (by show 2 * 0 + 0 ≤ _; decide) (hb hbytes d9) (⟨rfl, hA3, ba3, hne, l1, by rw [bs3]; simp, hp⟩)
  obtain ⟨rfl, B6, p6, f6⟩ := E6
  have c7 : Steps p.tables e below (s₁.setTop (entryFrame m #[.ref b, .int (Int32.ofNat o), .int (Int32.ofNat len)] 6)) (T6.setTop (mkF m 12 #[.val (.ref b), .val (.int (Int32.ofNat o)), .val (.int (Int32.ofNat len)), .val (.ref s.heap.size), .unset, .unset] [.int (Int32.ofNat len)])) := g6
  have c8 : Steps p.tables e below (s₁.setTop (entryFrame m #[.ref b, .int (Int32.ofNat o), .int (Int32.ofNat len)] 6)) (T6.setTop (mkF m 58 #[.val (.ref b), .val (.int (Int32.ofNat o)), .val (.int (Int32.ofNat len)), .val (.ref s.heap.size), .val (.int (Int32.ofNat len)), .unset] [.ref s.heap.size])) := c7.trans (by
    refine XS.istore X6.here hexec rfl (hb hbytes d12) rfl rfl ?_
    refine XS.iload X6.here hexec rfl (hb hbytes d14) rfl ?_
    refine XS.iloadN X6.here hexec rfl (hb hbytes d16) rfl ?_
    refine XS.icmpYes X6.here hexec rfl (pc0 := 17) rfl (hb hbytes d17) rfl (ii_eq_t rfl) (by decide) rfl ?_
    refine XS.aloadN X6.here hexec rfl (hb hbytes d57) rfl rfl ?_
    exact Steps.refl _)
  have X8 := X6.wide (L' := []) (cells' := 1) (slots' := len) (fun x hx hlt => by
    simp only [List.nil_append, copyLocs, List.mem_map, List.mem_range] at hx
    obtain ⟨i, -, rfl⟩ := hx
    exact absurd hlt (Nat.lt_irrefl _)) (Nat.le_refl _) (by omega)
  exact ⟨T6, some (.ref s.heap.size), _, _, _, X8, rfl, rfl, rfl, (fun h => by cases h), ⟨⟨rfl, B6, ba3.like (X3.warmed.alike.symm.trans X6.warmed.alike) p6.1 f6.1 f6.2.1 f6.2.2.1, f6.2.1.trans bv3, by rw [X6.warmed.alike.findClass, f6.1]; exact bf3, by rw [f6.2.2.1, bs3]; simp, fun j hj => by rw [f6.2.2.2 j, if_pos (by omega)]; rfl, kp3.put p6 (Nat.le_refl _)⟩, by rw [p6.2.2, bh3, hh0]; simp⟩, fun fs hl => c8.trans (X8.areturnOut hexec rfl hret rfl (hb hbytes d58) hl)⟩
end Cmp3
namespace CodL
def yN : MethodName := ⟨"java/lang/StringUTF16", "coderFromArrayLen", "([BI)B"⟩
abbrev yB : ByteArray := jdk_52_method_15_code
theorem d0 : decode yB 0 = .ok (.iload_n 1, 1) := by decide +kernel
theorem d1 : decode yB 1 = .ok (.aload_n 0, 1) := by decide +kernel
theorem d2 : decode yB 2 = .ok (.arraylength, 1) := by decide +kernel
theorem d3 : decode yB 3 = .ok (.isub, 1) := by decide +kernel
theorem d4 : decode yB 4 = .ok (.bipush 31, 2) := by decide +kernel
theorem d6 : decode yB 6 = .ok (.iushr, 1) := by decide +kernel
theorem d7 : decode yB 7 = .ok (.i2b, 1) := by decide +kernel
theorem d8 : decode yB 8 = .ok (.ireturn, 1) := by decide +kernel
def site : List Cond := []
def tab : Cond := tabOf yN yB 2 (some .byte) site
def P (d : Addr) (B : Cell) (args : Array Value) (s : State) : Prop := args = #[.ref d, .int (Int32.ofNat B.slots.size)] ∧ Arr .byte d B s
def E (r : Option Value) (s u : State) : Prop := XT.PureE (some (.int 0)) r s u
/-- an array as long as the number of chars: LATIN1 -/
theorem law (l : Launch) (d : Addr) (B : Cell) : Law l yN 2 2 0 0 yB 2 (some .byte) site (P d B) E [] 0 0 := by
  refine Law.of_walk (plainFor_of_name (by decide +kernel)) (by decide +kernel) (by decide +kernel) (by decide) (fun _ _ h => by rw [h.1]; rfl) (fun _ U U' hal hh h => ⟨h.1, h.2.mv hal hh⟩) (fun r U U' V V' h1 hal h2 h => XT.PureE.mv r U U' V V' h1 hal h2 h) ?_
  intro p e s m args below meth c s₁ X0 hexec hbytes hml hret hlk hnm hown hh0 W hP
  obtain ⟨rfl, hB⟩ := hP
  have hB0 := hB.mv X0.warmed.alike hh0
  have c1 : Steps p.tables e below (s₁.setTop (entryFrame m #[.ref d, .int (Int32.ofNat B.slots.size)] 2)) (s₁.setTop (mkF m 0 #[.val (.ref d), .val (.int (Int32.ofNat B.slots.size))] [])) := entry rfl
  have c2 : Steps p.tables e below (s₁.setTop (entryFrame m #[.ref d, .int (Int32.ofNat B.slots.size)] 2)) (s₁.setTop (mkF m 2 #[.val (.ref d), .val (.int (Int32.ofNat B.slots.size))] [.ref d, .int (Int32.ofNat B.slots.size)])) := c1.trans (by
    refine XS.iloadN X0.here hexec rfl (hb hbytes d0) rfl ?_
    refine XS.aloadN X0.here hexec rfl (hb hbytes d1) rfl rfl ?_
    exact Steps.refl _)
  have c3 : Steps p.tables e below (s₁.setTop (entryFrame m #[.ref d, .int (Int32.ofNat B.slots.size)] 2)) (s₁.setTop (mkF m 8 #[.val (.ref d), .val (.int (Int32.ofNat B.slots.size))] [.int (lo8 (ushr (Int32.ofNat B.slots.size - Int32.ofNat B.slots.size) 31))])) := c2.trans (by
    refine X0.alen hexec hB0 rfl rfl (hb hbytes d2) ?_
    refine XS.isub X0.here hexec rfl (hb hbytes d3) rfl ?_
    refine bipushV X0.here hexec rfl 31 (hb hbytes d4) (by decide) ?_
    refine iushr X0.here hexec rfl (hb hbytes d6) rfl ?_
    refine i2b X0.here hexec rfl (hb hbytes d7) rfl ?_
    exact Steps.refl _)
  have e0 : lo8 (ushr (Int32.ofNat B.slots.size - Int32.ofNat B.slots.size) 31) = 0 := by rw [Int32.sub_self]; decide
  rw [e0] at c3
  exact ⟨s₁, some (.int 0), _, _, _, X0, rfl, rfl, rfl, (fun h => by cases h), ⟨rfl, hh0⟩, fun fs hl => c3.trans (X0.ireturnOut hexec hret rfl (Or.inr (Or.inr (Or.inl rfl))) (hb hbytes d8) hl)⟩
end CodL
/-- the String at a is Latin-1 over a new byte[] (the heap's one new cell): the low bytes of the len chars of A from o on; every cell but a is kept -/
def Got (a : Addr) (D : Cell) (fV fC : Field) (A : Cell) (o len : Nat) (r : Option Value) (s u : State) : Prop := r = none ∧ ∃ D' V : Cell, Blank "java/lang/String" a D' u ∧ Same D D' [fV.slot, fC.slot] ∧ D'.slots[fV.slot]? = some (.ref s.heap.size) ∧ D'.slots[fC.slot]? = some (.int 0) ∧ Arr .byte s.heap.size V u ∧ V.vm = .none ∧ u.vm.findClass "[B" = some V.cls ∧ V.slots.size = len ∧ (∀ j, j < len → V.slots[j]? = some (.int (lo8 (cv A (o + j))))) ∧ (∀ (y : Addr) (c : Cell), y ≠ a → s.heap[y]? = some c → u.heap[y]? = some c) ∧ u.heap.size = s.heap.size + 1
theorem Got.mv {a : Addr} {D A : Cell} {fV fC : Field} {o len : Nat} : ∀ r (U U' V V' : State), U'.heap = U.heap → V.vm.Alike V'.vm → V'.heap = V.heap → Got a D fV fC A o len r U V → Got a D fV fC A o len r U' V' :=
  fun r U U' V V' h1 hal h2 ⟨e0, D', X, a1, a2, a3, a4, a5, a6, a7, a8, a9, a10, a11⟩ => ⟨e0, D', X, a1.mv hal h2, a2, by rw [h1]; exact a3, a4, by rw [h1]; exact a5.mv hal h2, a6, by rw [hal.findClass]; exact a7, a8, a9, by rw [h1, h2]; exact a10, by rw [h1, h2]; exact a11⟩
namespace New4
def yN : MethodName := ⟨"java/lang/String", "<init>", "([CIILjava/lang/Void;)V"⟩
abbrev yB : ByteArray := jdk_42_method_149_code
theorem d0 : decode yB 0 = .ok (.aload_n 0, 1) := by decide +kernel
theorem d1 : decode yB 1 = .ok (.invokespecial 1, 3) := by decide +kernel
theorem d4 : decode yB 4 = .ok (.iload_n 3, 1) := by decide +kernel
theorem d5 : decode yB 5 = .ok (.ifCond (.ne) 22, 3) := by decide +kernel
theorem d27 : decode yB 27 = .ok (.getstatic 38, 3) := by decide +kernel
theorem d30 : decode yB 30 = .ok (.ifCond (.eq) 28, 3) := by decide +kernel
theorem d33 : decode yB 33 = .ok (.aload_n 1, 1) := by decide +kernel
theorem d34 : decode yB 34 = .ok (.iload_n 2, 1) := by decide +kernel
theorem d35 : decode yB 35 = .ok (.iload_n 3, 1) := by decide +kernel
theorem d36 : decode yB 36 = .ok (.invokestatic 177, 3) := by decide +kernel
theorem d39 : decode yB 39 = .ok (.astore 5, 2) := by decide +kernel
theorem d41 : decode yB 41 = .ok (.aload_n 0, 1) := by decide +kernel
theorem d42 : decode yB 42 = .ok (.aload 5, 2) := by decide +kernel
theorem d44 : decode yB 44 = .ok (.iload_n 3, 1) := by decide +kernel
theorem d45 : decode yB 45 = .ok (.invokestatic 47, 3) := by decide +kernel
theorem d48 : decode yB 48 = .ok (.putfield 15, 3) := by decide +kernel
theorem d51 : decode yB 51 = .ok (.aload_n 0, 1) := by decide +kernel
theorem d52 : decode yB 52 = .ok (.aload 5, 2) := by decide +kernel
theorem d54 : decode yB 54 = .ok (.putfield 9, 3) := by decide +kernel
theorem d57 : decode yB 57 = .ok (.return_, 1) := by decide +kernel
def site : List Cond := [.fieldLink "java/lang/String" 38 "java/lang/String" "COMPACT_STRINGS" "Z", Cmp3.tab, CodL.tab, .laysFinal "java/lang/String" "java/lang/String" "value" "[B", .fieldLink "java/lang/String" 9 "java/lang/String" "value" "[B", .laysFinal "java/lang/String" "java/lang/String" "coder" "B", .fieldLink "java/lang/String" 15 "java/lang/String" "coder" "B"] ++ objW "java/lang/String" 1 ++ staticW "java/lang/String" 177 Cmp3.yN ++ staticW "java/lang/String" 47 CodL.yN
def tab : Cond := tabOf yN yB 6 none site
def P (a : Addr) (D : Cell) (fV fC : Field) (b : Addr) (A : Cell) (z : Int32) (o len : Nat) (args : Array Value) (s : State) : Prop := args = #[.ref a, .ref b, .int (Int32.ofNat o), .int (Int32.ofNat len), .null] ∧ Blank "java/lang/String" a D s ∧ Found "java/lang/String" "value" "[B" fV s ∧ Found "java/lang/String" "coder" "B" fC s ∧ Ch b A s ∧ StaticIs s "java/lang/String" "COMPACT_STRINGS" "Z" (.int z) ∧ ¬ z = 0 ∧ 0 < len ∧ o + len ≤ A.slots.size ∧ len ≤ 536870912 ∧ ∀ i, i < len → ¬ 255 < cv A (o + i)
def E (a : Addr) (D : Cell) (fV fC : Field) (A : Cell) (o len : Nat) (r : Option Value) (s u : State) : Prop := Got a D fV fC A o len r s u
/-- len > 0, no char of the range above 255: a Latin-1 String of their low bytes -/
theorem law (l : Launch) (a : Addr) (D : Cell) (fV fC : Field) (b : Addr) (A : Cell) (z : Int32) (o len : Nat) : Law l yN 5 4 2 35 yB 6 none site (P a D fV fC b A z o len) (E a D fV fC A o len) [⟨a, fC.slot⟩, ⟨a, fV.slot⟩] 1 len := by
  refine Law.of_walk (plainFor_of_name (by decide +kernel)) (by decide +kernel) (by decide +kernel) (by decide) (fun _ _ h => by rw [h.1]; rfl) (fun _ U U' hal hh h => ⟨h.1, h.2.1.mv hal hh, h.2.2.1.al hal, h.2.2.2.1.al hal, h.2.2.2.2.1.mv hal hh, h.2.2.2.2.2.1.there hal hh, h.2.2.2.2.2.2⟩) (fun r U U' V V' h1 hal h2 h => Got.mv r U U' V V' h1 hal h2 h) ?_
  intro p e s m args below meth c s₁ X0 hexec hbytes hml hret hlk hnm hown hh0 W hP
  obtain ⟨rfl, hB, f1, f2, hA, s1, hz, l0, l1, l2, hp⟩ := hP
  have a31 := hA.1.2.2.2
  have c1 : Steps p.tables e below (s₁.setTop (entryFrame m #[.ref a, .ref b, .int (Int32.ofNat o), .int (Int32.ofNat len), .null] 6)) (s₁.setTop (mkF m 0 #[.val (.ref a), .val (.ref b), .val (.int (Int32.ofNat o)), .val (.int (Int32.ofNat len)), .val .null, .unset] [])) := entry rfl
  have c2 : Steps p.tables e below (s₁.setTop (entryFrame m #[.ref a, .ref b, .int (Int32.ofNat o), .int (Int32.ofNat len), .null] 6)) (s₁.setTop (mkF m 1 #[.val (.ref a), .val (.ref b), .val (.int (Int32.ofNat o)), .val (.int (Int32.ofNat len)), .val .null, .unset] [.ref a])) := c1.trans (by
    refine XS.aloadN X0.here hexec rfl (hb hbytes d0) rfl rfl ?_
    exact Steps.refl _)
  obtain ⟨T3, X3, q3, st3⟩ := X0.oinit hexec hown (wks W (objW "java/lang/String" 1)) (g := (mkF m 1 #[.val (.ref a), .val (.ref b), .val (.int (Int32.ofNat o)), .val (.int (Int32.ofNat len)), .val .null, .unset] [.ref a])) rfl (by rw [hml]; rfl) (rest := []) rfl (hb hbytes d1) (W := 0) (by show 2 * 0 + 0 ≤ _; decide) (Nat.le_of_ble_eq_true rfl) (Nat.le_of_ble_eq_true rfl)
  have hh3 := q3.trans hh0
  have c4 : Steps p.tables e below (s₁.setTop (entryFrame m #[.ref a, .ref b, .int (Int32.ofNat o), .int (Int32.ofNat len), .null] 6)) (T3.setTop (mkF m 27 #[.val (.ref a), .val (.ref b), .val (.int (Int32.ofNat o)), .val (.int (Int32.ofNat len)), .val .null, .unset] [])) := (c2.trans (st3 _ (Steps.refl _))).trans (by
    refine XS.iloadN X3.here hexec rfl (hb hbytes d4) rfl ?_
    refine XS.ifYes X3.here hexec rfl (pc0 := 5) rfl (hb hbytes d5) rfl (i0_ne_t (nz32 (by omega) l0)) (by decide) rfl ?_
    exact Steps.refl _)
  obtain ⟨T5, X5, q5, st5⟩ := X3.sget hexec hown (wk W (.fieldLink "java/lang/String" 38 "java/lang/String" "COMPACT_STRINGS" "Z")) s1 (fun _ _ h => by rw [hh3]; exact h) (g := (mkF m 27 #[.val (.ref a), .val (.ref b), .val (.int (Int32.ofNat o)), .val (.int (Int32.ofNat len)), .val .null, .unset] [])) rfl (hb hbytes d27)
  have hh5 := q5.trans hh3
  have c6 : Steps p.tables e below (s₁.setTop (entryFrame m #[.ref a, .ref b, .int (Int32.ofNat o), .int (Int32.ofNat len), .null] 6)) (T5.setTop (mkF m 30 #[.val (.ref a), .val (.ref b), .val (.int (Int32.ofNat o)), .val (.int (Int32.ofNat len)), .val .null, .unset] [.int z])) := c4.trans (st5 _ (Steps.refl _))
  have c7 : Steps p.tables e below (s₁.setTop (entryFrame m #[.ref a, .ref b, .int (Int32.ofNat o), .int (Int32.ofNat len), .null] 6)) (T5.setTop (mkF m 36 #[.val (.ref a), .val (.ref b), .val (.int (Int32.ofNat o)), .val (.int (Int32.ofNat len)), .val .null, .unset] [.int (Int32.ofNat len), .int (Int32.ofNat o), .ref b])) := c6.trans (by
    refine XS.ifNo X5.here hexec rfl (hb hbytes d30) rfl (i0_eq_f hz) ?_
    refine XS.aloadN X5.here hexec rfl (hb hbytes d33) rfl rfl ?_
    refine XS.iloadN X5.here hexec rfl (hb hbytes d34) rfl ?_
    refine XS.iloadN X5.here hexec rfl (hb hbytes d35) rfl ?_
    exact Steps.refl _)
  obtain ⟨v8, T8, X8, E8, g8⟩ := X5.callS hexec (Cmp3.law l b A o len) hown (wks W (staticW "java/lang/String" 177 Cmp3.yN)) (wk W Cmp3.tab) (W := 0) (Nat.le_of_ble_eq_true rfl) (Nat.le_of_ble_eq_true rfl) (Nat.le_refl _) (by show 0 + len ≤ len; omega) (g := (mkF m 36 #[.val (.ref a), .val (.ref b), .val (.int (Int32.ofNat o)), .val (.int (Int32.ofNat len)), .val .null, .unset] [.int (Int32.ofNat len), .int (Int32.ofNat o), .ref b])) rfl (by rw [hml]; rfl) c7 (argsL := [.ref b, .int (Int32.ofNat o), .int (Int32.ofNat len)]) (rest := []) rfl rfl (by show 2 * 0 + 0 ≤ _; decide) (hb hbytes d36) (⟨rfl, hA.mv X5.warmed.alike hh5, l1, l2, hp⟩)
  obtain ⟨e8, z8⟩ := E8
  obtain ⟨rfl, N, n1, n2, n3, n4, n5, n6⟩ := NewArr.mv _ T5 s _ _ hh5.symm (Vm.Alike.refl _) rfl e8
  rw [hh5] at z8
  have hB1 := hB.keep X8.warmed.alike (n6 _ _ hB.1)
  have hne : s.heap.size ≠ a := (Nat.ne_of_lt (Array.getElem?_eq_some_iff.mp hB.1).1).symm
  have c9 : Steps p.tables e below (s₁.setTop (entryFrame m #[.ref a, .ref b, .int (Int32.ofNat o), .int (Int32.ofNat len), .null] 6)) (T8.setTop (mkF m 39 #[.val (.ref a), .val (.ref b), .val (.int (Int32.ofNat o)), .val (.int (Int32.ofNat len)), .val .null, .unset] [.ref s.heap.size])) := g8
  have c10 : Steps p.tables e below (s₁.setTop (entryFrame m #[.ref a, .ref b, .int (Int32.ofNat o), .int (Int32.ofNat len), .null] 6)) (T8.setTop (mkF m 45 #[.val (.ref a), .val (.ref b), .val (.int (Int32.ofNat o)), .val (.int (Int32.ofNat len)), .val .null, .val (.ref s.heap.size)] [.int (Int32.ofNat N.slots.size), .ref s.heap.size, .ref a])) := by
    have hc : Steps p.tables e below (s₁.setTop (entryFrame m #[.ref a, .ref b, .int (Int32.ofNat o), .int (Int32.ofNat len), .null] 6)) (T8.setTop (mkF m 45 #[.val (.ref a), .val (.ref b), .val (.int (Int32.ofNat o)), .val (.int (Int32.ofNat len)), .val .null, .val (.ref s.heap.size)] [.int (Int32.ofNat len), .ref s.heap.size, .ref a])) := c9.trans (by
      refine XS.astore X8.here hexec rfl (hb hbytes d39) rfl rfl rfl ?_
      refine XS.aloadN X8.here hexec rfl (hb hbytes d41) rfl rfl ?_
      refine XS.aload X8.here hexec rfl (hb hbytes d42) rfl rfl ?_
      refine XS.iloadN X8.here hexec rfl (hb hbytes d44) rfl ?_
      exact Steps.refl _)
    rw [n4]; exact hc
  obtain ⟨v11, T11, X11, E11, g11⟩ := X8.callS hexec (CodL.law l s.heap.size N) hown (wks W (staticW "java/lang/String" 47 CodL.yN)) (wk W CodL.tab) (W := 1) (Nat.le_of_ble_eq_true rfl) (Nat.le_of_ble_eq_true rfl) (Nat.le_refl _) (by show 0 + len + 0 ≤ len; omega) (g := (mkF m 45 #[.val (.ref a), .val (.ref b), .val (.int (Int32.ofNat o)), .val (.int (Int32.ofNat len)), .val .null, .val (.ref s.heap.size)] [.int (Int32.ofNat N.slots.size), .ref s.heap.size, .ref a])) rfl (by rw [hml]; rfl) c10 (argsL := [.ref s.heap.size, .int (Int32.ofNat N.slots.size)]) (rest := [.ref a]) rfl rfl (by show 2 * 0 + (1 + 0) ≤ _; decide) (hb hbytes d45) (⟨rfl, n1⟩)
  obtain ⟨rfl, q11⟩ := E11
  have hB11 := hB1.mv (X8.warmed.alike.symm.trans X11.warmed.alike) q11
  have c12 : Steps p.tables e below (s₁.setTop (entryFrame m #[.ref a, .ref b, .int (Int32.ofNat o), .int (Int32.ofNat len), .null] 6)) (T11.setTop (mkF m 48 #[.val (.ref a), .val (.ref b), .val (.int (Int32.ofNat o)), .val (.int (Int32.ofNat len)), .val .null, .val (.ref s.heap.size)] [.int 0, .ref a])) := g11
  obtain ⟨T13, X13, p13, bl13, sl13, st13⟩ := X11.finit hexec hown (wk W (.fieldLink "java/lang/String" 15 "java/lang/String" "coder" "B")) (Or.inr ⟨_, (wk W (.laysFinal "java/lang/String" "java/lang/String" "coder" "B"))⟩) (Or.inl ⟨rfl, hnm⟩) f2 (Or.inl rfl) hB11 (t := .byte) (by decide +kernel) rfl (g := (mkF m 48 #[.val (.ref a), .val (.ref b), .val (.int (Int32.ofNat o)), .val (.int (Int32.ofNat len)), .val .null, .val (.ref s.heap.size)] [.int 0, .ref a])) rfl (rest := []) rfl (hb hbytes d48)
  have c14 : Steps p.tables e below (s₁.setTop (entryFrame m #[.ref a, .ref b, .int (Int32.ofNat o), .int (Int32.ofNat len), .null] 6)) (T13.setTop (mkF m 54 #[.val (.ref a), .val (.ref b), .val (.int (Int32.ofNat o)), .val (.int (Int32.ofNat len)), .val .null, .val (.ref s.heap.size)] [.ref s.heap.size, .ref a])) := (c12.trans (st13 _ (Steps.refl _))).trans (by
    refine XS.aloadN X13.here hexec rfl (hb hbytes d51) rfl rfl ?_
    refine XS.aload X13.here hexec rfl (hb hbytes d52) rfl rfl ?_
    exact Steps.refl _)
  obtain ⟨T15, X15, p15, bl15, sl15, st15⟩ := X13.finit hexec hown (wk W (.fieldLink "java/lang/String" 9 "java/lang/String" "value" "[B")) (Or.inr ⟨_, (wk W (.laysFinal "java/lang/String" "java/lang/String" "value" "[B"))⟩) (Or.inl ⟨rfl, hnm⟩) f1 (Or.inl rfl) bl13 (t := (.array .byte)) (by decide +kernel) rfl (g := (mkF m 54 #[.val (.ref a), .val (.ref b), .val (.int (Int32.ofNat o)), .val (.int (Int32.ofNat len)), .val .null, .val (.ref s.heap.size)] [.ref s.heap.size, .ref a])) rfl (rest := []) rfl (hb hbytes d54)
  have c16 : Steps p.tables e below (s₁.setTop (entryFrame m #[.ref a, .ref b, .int (Int32.ofNat o), .int (Int32.ofNat len), .null] 6)) (T15.setTop (mkF m 57 #[.val (.ref a), .val (.ref b), .val (.int (Int32.ofNat o)), .val (.int (Int32.ofNat len)), .val .null, .val (.ref s.heap.size)] [])) := c14.trans (st15 _ (Steps.refl _))
  have ap := apart (Or.inr ⟨_, (wk W (.laysFinal "java/lang/String" "java/lang/String" "value" "[B"))⟩) (Or.inr ⟨_, (wk W (.laysFinal "java/lang/String" "java/lang/String" "coder" "B"))⟩) f1 f2 (t₁ := .array .byte) (t₂ := .byte) (by decide +kernel) (by decide +kernel) (by decide)
  have al := X8.warmed.alike.symm.trans X15.warmed.alike
  have n7 : T11.heap[s.heap.size]? = some N := by rw [q11]; exact n1.1
  exact ⟨T15, none, _, _, _, X15, by simp, rfl, by omega, (fun _ => rfl), ⟨rfl, _, N, bl15, ((Same.refl D _).set _ (by simp)).set _ (by simp), sl15, (Cell.slots_setSlot_ne _ ap).trans sl13, n1.keep al (p15.other hne (p13.other hne n7)), n2, by rw [al.findClass]; exact n3, n4, n5, fun y c h1 h2 => p15.other h1 (p13.other h1 (by rw [q11]; exact n6 y c h2)), by rw [p15.2.2, p13.2.2, q11]; exact z8⟩, fun fs hl => c16.trans (X15.returnOut hexec hret (hb hbytes d57) hl)⟩
end New4
namespace New1
def yN : MethodName := ⟨"java/lang/String", "<init>", "([C)V"⟩
abbrev yB : ByteArray := jdk_42_method_3_code
theorem d0 : decode yB 0 = .ok (.aload_n 0, 1) := by decide +kernel
theorem d1 : decode yB 1 = .ok (.aload_n 1, 1) := by decide +kernel
theorem d2 : decode yB 2 = .ok (.iconst 0, 1) := by decide +kernel
theorem d3 : decode yB 3 = .ok (.aload_n 1, 1) := by decide +kernel
theorem d4 : decode yB 4 = .ok (.arraylength, 1) := by decide +kernel
theorem d5 : decode yB 5 = .ok (.aconst_null, 1) := by decide +kernel
theorem d6 : decode yB 6 = .ok (.invokespecial 27, 3) := by decide +kernel
theorem d9 : decode yB 9 = .ok (.return_, 1) := by decide +kernel
def site : List Cond := [New4.tab] ++ initW "java/lang/String" 27 New4.yN
def tab : Cond := tabOf yN yB 2 none site
def P (a : Addr) (D : Cell) (fV fC : Field) (b : Addr) (A : Cell) (z : Int32) (args : Array Value) (s : State) : Prop := args = #[.ref a, .ref b] ∧ Blank "java/lang/String" a D s ∧ Found "java/lang/String" "value" "[B" fV s ∧ Found "java/lang/String" "coder" "B" fC s ∧ Ch b A s ∧ StaticIs s "java/lang/String" "COMPACT_STRINGS" "Z" (.int z) ∧ ¬ z = 0 ∧ 0 < A.slots.size ∧ A.slots.size ≤ 536870912 ∧ ∀ i, i < A.slots.size → ¬ 255 < cv A i
def E (a : Addr) (D : Cell) (fV fC : Field) (A : Cell) (r : Option Value) (s u : State) : Prop := Got a D fV fC A 0 A.slots.size r s u
/-- new String(chars), not empty, no char above 255: a Latin-1 String of their low bytes -/
theorem law (l : Launch) (a : Addr) (D : Cell) (fV fC : Field) (b : Addr) (A : Cell) (z : Int32) : Law l yN 2 1 3 52 yB 2 none site (P a D fV fC b A z) (E a D fV fC A) [⟨a, fC.slot⟩, ⟨a, fV.slot⟩] 1 A.slots.size := by
  refine Law.of_walk (plainFor_of_name (by decide +kernel)) (by decide +kernel) (by decide +kernel) (by decide) (fun _ _ h => by rw [h.1]; rfl) (fun _ U U' hal hh h => ⟨h.1, h.2.1.mv hal hh, h.2.2.1.al hal, h.2.2.2.1.al hal, h.2.2.2.2.1.mv hal hh, h.2.2.2.2.2.1.there hal hh, h.2.2.2.2.2.2⟩) (fun r U U' V V' h1 hal h2 h => Got.mv r U U' V V' h1 hal h2 h) ?_
  intro p e s m args below meth c s₁ X0 hexec hbytes hml hret hlk hnm hown hh0 W hP
  obtain ⟨rfl, hB, f1, f2, hA, s1, hz, l0, l2, hp⟩ := hP
  have c1 : Steps p.tables e below (s₁.setTop (entryFrame m #[.ref a, .ref b] 2)) (s₁.setTop (mkF m 0 #[.val (.ref a), .val (.ref b)] [])) := entry rfl
  have c2 : Steps p.tables e below (s₁.setTop (entryFrame m #[.ref a, .ref b] 2)) (s₁.setTop (mkF m 6 #[.val (.ref a), .val (.ref b)] [.null, .int (Int32.ofNat A.slots.size), .int 0, .ref b, .ref a])) := c1.trans (by
    refine XS.aloadN X0.here hexec rfl (hb hbytes d0) rfl rfl ?_
    refine XS.aloadN X0.here hexec rfl (hb hbytes d1) rfl rfl ?_
    refine iconstV X0.here hexec rfl 0 (hb hbytes d2) (by decide) ?_
    refine XS.aloadN X0.here hexec rfl (hb hbytes d3) rfl rfl ?_
    refine X0.alen hexec (hA.1.mv X0.warmed.alike hh0) rfl rfl (hb hbytes d4) ?_
    refine XS.aconstNull X0.here hexec rfl (hb hbytes d5) ?_
    exact Steps.refl _)
  obtain ⟨v3, T3, X3, E3, g3⟩ := X0.callN hexec (New4.law l a D fV fC b A z 0 A.slots.size) rfl hown (wks W (initW "java/lang/String" 27 New4.yN)) (W New4.tab (by simp only [site, List.mem_cons, List.mem_append, true_or, or_true])) (W := 0) (Nat.le_of_ble_eq_true rfl) (Nat.le_of_ble_eq_true rfl) (Nat.le_refl _) (by show 0 + A.slots.size ≤ A.slots.size; omega) (g := (mkF m 6 #[.val (.ref a), .val (.ref b)] [.null, .int (Int32.ofNat A.slots.size), .int (Int32.ofNat 0), .ref b, .ref a])) rfl (by rw [hml]; rfl) c2 (argsL := [.ref b, .int (Int32.ofNat 0), .int (Int32.ofNat A.slots.size), .null]) (rest := []) rfl rfl (by show 2 * 0 + 0 ≤ _; decide) (hb hbytes d6) (⟨rfl, hB.mv X0.warmed.alike hh0, f1.al X0.warmed.alike, f2.al X0.warmed.alike, hA.mv X0.warmed.alike hh0, s1.there X0.warmed.alike hh0, hz, l0, by omega, l2, fun i hi => by rw [Nat.zero_add]; exact hp i hi⟩)
  have e0 := Got.mv _ s₁ s _ _ hh0.symm (Vm.Alike.refl _) rfl E3
  obtain rfl := e0.1
  have c4 : Steps p.tables e below (s₁.setTop (entryFrame m #[.ref a, .ref b] 2)) (T3.setTop (mkF m 9 #[.val (.ref a), .val (.ref b)] [])) := g3
  exact ⟨T3, none, _, _, _, X3, by simp, rfl, by omega, (fun _ => rfl), e0, fun fs hl => c4.trans (X3.returnOut hexec hret (hb hbytes d9) hl)⟩
theorem pays {l : Launch} {R : Room} {p : Program} {e : Env} {below : List Frame} {s : State} {sargs : Array Value} {len W : Nat} (a : Addr) (D : Cell) (fV fC : Field) (b : Addr) (A : Cell) (z : Int32) (htab : tab.before sargs s = true) (hfr : 4 ≤ R.frames) (hlo : W + 65 ≤ R.locals) :
    Back l R p e below s sargs yN len W (fun A₁ a₁ => A₁.cells + 1 ≤ R.cells ∧ A₁.slots + A.slots.size ≤ R.slots ∧ P a D fV fC b A z a₁ A₁.U) (fun A₁ _ v₁ B₁ => E a D fV fC A v₁ A₁.U B₁.U ∧ B₁.locs = A₁.locs ++ [⟨a, fC.slot⟩, ⟨a, fV.slot⟩] ∧ B₁.cells = A₁.cells + 1 ∧ B₁.slots = A₁.slots + A.slots.size) :=
  (law l a D fV fC b A z).pays htab hfr (by omega)
end New1
/-- the byte, read back as charAt reads it, is the char -/
theorem lo8_mask {x : Int32} (h0 : ¬ x < 0) (h1 : ¬ 255 < x) : lo8 x &&& 255 = x := by
  have t : ∀ k : Fin 256, lo8 (Int32.ofNat k.val) &&& 255 = Int32.ofNat k.val := by decide +kernel
  rw [Int32.lt_iff_toInt_lt] at h0 h1
  have e0 : (0 : Int32).toInt = 0 := rfl
  have e1 : (255 : Int32).toInt = 255 := rfl
  obtain ⟨k, hk⟩ : ∃ k : Nat, x.toInt = k := ⟨x.toInt.toNat, by omega⟩
  have hx : x = Int32.ofNat k := Int32.toInt_inj.mp (by rw [hk, Int32.toInt_ofNat_small (by omega)])
  rw [hx]
  exact t ⟨k, by omega⟩
end StrChars
namespace StrChars.Road
open Jvm Sem ClassFile Op Lib Jvm.Stand Jvm.Free Jvm.Free.XT
open Jvm.Lib.Cold (StaticIs)
abbrev ST : String := "java/lang/String"
/-- every table word that New1's law asks, flat -/
abbrev words : List Jvm.Cond := [.code New1.yN New1.yB 2 none, .initialized ST, .methodLink ST 27 New4.yN, .instanceMethod New4.yN,
  .code New4.yN New4.yB 6 none, .fieldLink ST 38 ST "COMPACT_STRINGS" "Z", .laysFinal ST ST "value" "[B", .fieldLink ST 9 ST "value" "[B", .laysFinal ST ST "coder" "B", .fieldLink ST 15 ST "coder" "B",
  .methodLink ST 1 Lib.objectInit, .instanceMethod Lib.objectInit, .code Lib.objectInit ⟨#[0xb1]⟩ 1 none, .methodLink ST 177 Cmp3.yN, .static Cmp3.yN, .methodLink ST 47 CodL.yN, .static CodL.yN,
  .code Cmp3.yN Cmp3.yB 6 (some (.array .byte)), .initialized U16, .arrayClass .byte, .methodLink U16 115 Cmp5.yN, .static Cmp5.yN, .code Cmp5.yN Cmp5.yB 7 (some .int), .code CodL.yN CodL.yB 2 (some .byte)]
theorem tab_of {a : Array Value} {s : State} (h : ∀ w ∈ words, w.before a s = true) : New1.tab.before a s = true := by
  have h5 : Cmp5.tab.before a s = true := unparts (wk h (.code Cmp5.yN Cmp5.yB 7 (some .int))) (wks h (.initialized Cmp5.yN.cls :: Cmp5.site))
  have hc : CodL.tab.before a s = true := unparts (wk h (.code CodL.yN CodL.yB 2 (some .byte))) (wks h (.initialized CodL.yN.cls :: CodL.site))
  have q5 : ∀ w ∈ Cmp5.tab :: words, w.before a s = true := fun w hw => (List.mem_cons.mp hw).elim (fun e => e ▸ h5) (h w)
  have h3 : Cmp3.tab.before a s = true := unparts (wk q5 (.code Cmp3.yN Cmp3.yB 6 (some (.array .byte)))) (wks q5 (.initialized Cmp3.yN.cls :: Cmp3.site))
  have q3 : ∀ w ∈ Cmp3.tab :: CodL.tab :: words, w.before a s = true := fun w hw => (List.mem_cons.mp hw).elim (fun e => e ▸ h3) fun hw => (List.mem_cons.mp hw).elim (fun e => e ▸ hc) (h w)
  have h4 : New4.tab.before a s = true := unparts (wk q3 (.code New4.yN New4.yB 6 none)) (wks q3 (.initialized New4.yN.cls :: New4.site))
  have q4 : ∀ w ∈ New4.tab :: words, w.before a s = true := fun w hw => (List.mem_cons.mp hw).elim (fun e => e ▸ h4) (h w)
  exact unparts (wk q4 (.code New1.yN New1.yB 2 none)) (wks q4 (.initialized New1.yN.cls :: New1.site))
/-- the words ride from the start Z to the walk's own state -/
theorem moved {Z s : State} {a0 args : Array Value} (hZ : Z.Warmed39 s.vm) (hw : ∀ d ∈ words, d.before a0 Z = true) : ∀ d ∈ words, d.before args s = true := fun d hd => by
  have q := hw d hd
  have t : ∀ d ∈ words, d = .arrayClass .byte ∨ (d.onTables && d.keepsFace) = true := by decide +kernel
  rcases t d hd with rfl | t
  · exact RoadKit.mvA hZ q
  · exact RoadKit.mv hZ q t
/-- WHAT COMES BACK, over the tables of the start Z: h the heap at the call, h' behind it -/
def Q (Z : State) (x : Addr) (A : Cell) (h : Heap) (v : Option Value) (h' : Heap) (L : List Loc) : Prop := v = none ∧ (∀ y ∈ L, y.base = x) ∧ RoadKit.Keep h h' [x] ∧ h'.size = h.size + 1 ∧ RoadKit.Exa Z h' x ST ∧ RoadKit.Fld Z h' x ST "value" "[B" (.ref h.size) ∧ RoadKit.Fld Z h' x ST "coder" "B" (.int 0) ∧
  (∃ V : Cell, RoadKit.Arr Z h' h.size V .byte ∧ V.vm = .none ∧ Z.vm.findClass "[B" = some V.cls ∧ V.slots.size = A.slots.size ∧ ∀ j, j < A.slots.size → V.slots[j]? = some (.int (lo8 (cv A j)))) ∧
  ∀ (O n d : String) (w : Value), RoadKit.Fld Z h x O n d w → RoadKit.slotOf Z O n d ≠ RoadKit.slotOf Z ST "value" "[B" → RoadKit.slotOf Z O n d ≠ RoadKit.slotOf Z ST "coder" "B" → RoadKit.Fld Z h' x O n d w
/-- **new String(chars) AT A CALL, IN THE ROAD'S FORM**: for specialBack behind newO: x the fresh String, b the char[] with the cell A -/
theorem back {p : Program} {l : Launch} {e : Env} {R : Room} {s : State} {args : Array Value} {below : List Frame} {len W : Nat} {Z : State} {a0 : Array Value} {h : Heap} (hZ : Z.Warmed39 s.vm) (hw : ∀ d ∈ words, d.before a0 Z = true) {kI : Nat} (wi : (Jvm.Cond.instantiable ST kI).before a0 Z = true)
    {x b : Addr} {A : Cell} {z : Int32} {v0 c0 : Value} (E : RoadKit.Exa Z h x ST) (V : RoadKit.Fld Z h x ST "value" "[B" v0) (C : RoadKit.Fld Z h x ST "coder" "B" c0) (K : RoadKit.Arr Z h b A .char) (hty : Typed .char A) (S : RoadKit.Sta Z h ST "COMPACT_STRINGS" "Z" (.int z)) (hz : ¬ z = 0)
    (l0 : 0 < A.slots.size) (l2 : A.slots.size ≤ 536870912) (hp : ∀ i, i < A.slots.size → ¬ 255 < cv A i) (hfr : 4 ≤ R.frames) (hlo : W + 65 ≤ R.locals) :
    Back l R p e below s args New1.yN len W (fun P a => a = #[.ref x, .ref b] ∧ P.U.heap = h ∧ P.cells + 1 ≤ R.cells ∧ P.slots + A.slots.size ≤ R.slots)
      (fun P _ v B => ∃ L, Q Z x A h v B.U.heap L ∧ B.locs = P.locs ++ L ∧ B.cells = P.cells + 1 ∧ B.slots = P.slots + A.slots.size) := by
  intro m meth c P g ig mk a X hg hsize hdg hW hn hp'
  obtain ⟨rfl, rfl, r1, r2⟩ := hp'
  have al : Z.vm.Alike P.U.vm := hZ.alike.trans X.warmed.alike
  obtain ⟨D, cfV, kV, iV, fV, hD, gV, stV, knV, obV, asV, slV⟩ := id V
  obtain ⟨D', cfC, kC, iC, fC, hD', gC, stC, -, -, asC, slC⟩ := id C
  cases hD.symm.trans hD'
  obtain ⟨D2, kD, e1, e2, e3, e4, e5⟩ := id E
  cases hD.symm.trans e1
  obtain ⟨c2, k2, i1, i2, i3, -⟩ := Cond.instantiable_spec wi
  cases e2.symm.trans i1
  cases e3.symm.trans i2
  obtain ⟨kU, u1, u2⟩ := al.2.2 _ _ e3
  have hB : Blank ST x D P.U := ⟨hD, ⟨knV, fun q hq => by rw [hq] at obV; cases obV⟩, by rw [al.findClass]; exact e2, kU, u1, by rw [u2]; exact i3, by rw [u2]; exact e5 i3⟩
  have F1 : Found ST "value" "[B" fV P.U := ⟨SBG.found_only al ⟨cfV, kV, iV, gV⟩, stV⟩
  have F2 : Found ST "coder" "B" fC P.U := ⟨SBG.found_only al ⟨cfC, kC, iC, gC⟩, stC⟩
  have hA : Ch b A P.U := ⟨⟨K.1, State.isArrayOf_alike al K.2.1, K.2.2, by omega⟩, hty⟩
  have hS : StaticIs P.U ST "COMPACT_STRINGS" "Z" (.int z) := by
    obtain ⟨cfS, iS, kS, fS, st, cS, t1, t2, t3, t4, t5, t6, t7⟩ := S
    exact StaticIs.there (s := { Z with heap := P.U.heap }) ⟨cfS, iS, kS, fS, st, cS, t1, t2, t3, t4, t5, (fun q => by rw [q] at t6; cases t6), t7⟩ al rfl
  obtain ⟨v, B, X', ⟨⟨hv, E', V', q1, q2, q3, q4, q5, q6, q7, q8, q9, q10, q11⟩, hl, hc, hs⟩, st⟩ := New1.pays x D fV fC b A z (tab_of (moved hZ hw)) hfr hlo m meth c P g ig mk _ X hg hsize hdg hW hn ⟨r1, r2, rfl, hB, F1, F2, hA, hS, hz, l0, l2, hp⟩
  have al' : Z.vm.Alike B.U.vm := hZ.alike.trans X'.warmed.alike
  have hsz : E'.slots.size = D.slots.size := by
    obtain ⟨-, -, -, kB, w1, w2, w3⟩ := q1
    obtain ⟨kB', y1, y2⟩ := al'.2.2 _ _ e3
    rw [q2.2.1] at w1
    cases w1.symm.trans y1
    rw [w3, e5 i3, y2]
  refine ⟨v, B, X', ⟨_, ⟨hv, ?_, ⟨by omega, fun y cy hy hn' => q10 y cy (by simpa using hn') hy, fun y cy hy => ?_⟩, q11, ⟨E', _, q1.1, by rw [q2.2.1]; exact e2, by rw [q2.2.1]; exact e3, by rw [q2.1]; exact obV, fun _ => by rw [hsz]; exact e5 i3⟩,
    ⟨E', cfV, kV, iV, fV, q1.1, gV, stV, by rw [q2.1]; exact knV, by rw [q2.1]; exact obV, by rw [q2.2.1]; exact asV, q3⟩, ⟨E', cfC, kC, iC, fC, q1.1, gC, stC, by rw [q2.1]; exact knV, by rw [q2.1]; exact obV, by rw [q2.2.1]; exact asC, q4⟩,
    ⟨V', ⟨q5.1, State.isArrayOf_alike al'.symm q5.2.1, q5.2.2.1⟩, q6, by rw [← al'.findClass]; exact q7, q8, fun j hj => by have := q9 j hj; rwa [Nat.zero_add] at this⟩, fun O n d w F n1 n2 => ?_⟩, hl, hc, hs⟩, st⟩
  · intro y hy
    simp only [List.mem_cons, List.not_mem_nil, or_false] at hy
    rcases hy with rfl | rfl <;> rfl
  · by_cases q : y = x
    · subst q
      cases hD.symm.trans hy
      exact ⟨E', q1.1, q2.2.1, q2.1, hsz⟩
    · exact ⟨cy, q10 y cy q hy, rfl, rfl, rfl⟩
  · obtain ⟨D3, cf, k, i, f, g1, g2, g3, g4, g5, g6, g7⟩ := F
    cases hD.symm.trans g1
    simp only [RoadKit.slotOf, g2, gV, gC, Option.map_some, Option.getD_some] at n1 n2
    exact ⟨E', cf, k, i, f, q1.1, g2, g3, by rw [q2.1]; exact g4, by rw [q2.1]; exact g5, by rw [q2.2.1]; exact g6, by rw [q2.2.2 f.slot (by simp [n1, n2])]; exact g7⟩
end StrChars.Road
namespace StrChars.Road
open Jvm Sem ClassFile Op Lib Jvm.Stand Jvm.Free Jvm.Free.XT
/-- WHAT COMES BACK, the byte[] as a list of values -/
def QA (Z : State) (x : Addr) (zn : Int32) (cs : List Int32) (h : Heap) (v : Option Value) (h' : Heap) (L : List Loc) : Prop := v = none ∧ (∀ y ∈ L, y.base = x) ∧ RoadKit.Keep h h' [x] ∧ h'.size = h.size + 1 ∧ RoadKit.Exa Z h' x ST ∧ RoadKit.Fld Z h' x ST "value" "[B" (.ref h.size) ∧ RoadKit.Fld Z h' x ST "coder" "B" (.int 0) ∧
  (∃ kb, Z.vm.findClass "[B" = some kb ∧ RoadKit.Arv Z h' h.size kb .byte zn (cs.map fun c => .int (lo8 c)) (.int 0)) ∧
  ∀ (O n d : String) (w : Value), RoadKit.Fld Z h x O n d w → RoadKit.slotOf Z O n d ≠ RoadKit.slotOf Z ST "value" "[B" → RoadKit.slotOf Z O n d ≠ RoadKit.slotOf Z ST "coder" "B" → RoadKit.Fld Z h' x O n d w
/-- **new String(chars) AT A CALL, THE ARRAYS AS LISTS**: the char[] at b holds cs, not empty, no char above 255 -/
theorem backArv {p : Program} {l : Launch} {e : Env} {R : Room} {s : State} {args : Array Value} {below : List Frame} {len W : Nat} {Z : State} {a0 : Array Value} {h : Heap} (hZ : Z.Warmed39 s.vm) (hw : ∀ d ∈ words, d.before a0 Z = true) {kI : Nat} (wi : (Jvm.Cond.instantiable ST kI).before a0 Z = true)
    {x b : Addr} {k : ClassId} {zn z : Int32} {cs : List Int32} {dv v0 c0 : Value} (E : RoadKit.Exa Z h x ST) (V : RoadKit.Fld Z h x ST "value" "[B" v0) (C : RoadKit.Fld Z h x ST "coder" "B" c0) (K : RoadKit.Arv Z h b k .char zn (cs.map Value.int) dv) (S : RoadKit.Sta Z h ST "COMPACT_STRINGS" "Z" (.int z)) (hz : ¬ z = 0)
    (hlen : zn.toNatClampNeg = cs.length) (h0 : 0 < cs.length) (hbig : cs.length ≤ 536870912) (hall : ∀ c ∈ cs, ¬ 255 < c) (hfr : 4 ≤ R.frames) (hlo : W + 65 ≤ R.locals) :
    Back l R p e below s args New1.yN len W (fun P a => a = #[.ref x, .ref b] ∧ P.U.heap = h ∧ P.cells + 1 ≤ R.cells ∧ P.slots + cs.length ≤ R.slots)
      (fun P _ v B => ∃ L, QA Z x zn cs h v B.U.heap L ∧ B.locs = P.locs ++ L ∧ B.cells = P.cells + 1 ∧ B.slots = P.slots + cs.length) := by
  obtain ⟨A, K1, K2, K3, K4, K5, K6⟩ := K
  have e : A.slots.size = cs.length := K3.trans hlen
  have hat : ∀ (i : Nat) (hi : i < cs.length), A.slots[i]? = some (.int cs[i]) := fun i hi => by rw [K5 i (by omega)]; simp [List.getD_eq_getElem?_getD, hi]
  have hcv : ∀ (i : Nat) (hi : i < cs.length), cv A i = cs[i] := fun i hi => by unfold cv; rw [hat i hi]
  have hty : Typed .char A := fun i v hv => by
    have hi : i < A.slots.size := (Array.getElem?_eq_some_iff.mp hv).1
    have q := K5 i hi
    rw [hv] at q
    rw [Option.some.inj q]
    exact K6 i hi
  refine Back.mono (back hZ hw wi E V C K1 hty S hz (by omega) (by omega) (fun i hi => by rw [hcv i (by omega)]; exact hall _ (List.getElem_mem _)) hfr hlo) (fun P a hp => ⟨hp.1, hp.2.1, hp.2.2.1, by rw [e]; exact hp.2.2.2⟩) (fun P a v B hp hq => ?_)
  obtain ⟨L, ⟨q1, q2, q3, q4, q5, q6, q7, ⟨V', v1, v2, v3, v4, v5⟩, q9⟩, hl, hc, hs⟩ := hq
  refine ⟨L, ⟨q1, q2, q3, q4, q5, q6, q7, ⟨V'.cls, v3, V', v1, rfl, by rw [v4, e, hlen], K4, fun i hi => ?_, fun i hi => ?_⟩, q9⟩, hl, hc, by rw [hs, e]⟩
  · have hi' : i < cs.length := by omega
    rw [v5 i (by omega), hcv i hi']; simp [List.getD_eq_getElem?_getD, hi']
  · have hi' : i < cs.length := by omega
    simp only [List.getD_eq_getElem?_getD, List.getElem?_map, List.getElem?_eq_getElem hi', Option.map_some, Option.getD_some]
    exact fits_lo8 _
end StrChars.Road
namespace StrChars.Road
open Jvm Sem ClassFile Op Lib Jvm.Stand Jvm.Free Jvm.Free.XT
/-- WHAT COMES BACK, in the writer's own shape -/
def QV (Z : State) (x : Addr) (N : Int32) (bs : List Int32) (h : Heap) (n0 : Nat) (v : Option Value) (h' : Heap) (L : List Loc) : Prop := v = none ∧ RoadKit.Fr n0 L ∧ RoadKit.Keep h h' [x] ∧ RoadKit.Exa Z h' x ST ∧ RoadKit.Fld Z h' x ST "coder" "B" (.int 0) ∧
  ∃ (t : Addr) (kb : ClassId), n0 ≤ t ∧ h.size ≤ t ∧ ¬ t = x ∧ RoadKit.Fld Z h' x ST "value" "[B" (.ref t) ∧ RoadKit.Arv Z h' t kb .byte N (bs.map Value.int) (.int 0)
/-- **new String(chars) AT A CALL, FOR THE WRITER**: a char[] of n known ints, each 0 to 255 -/
theorem backV {p : Program} {l : Launch} {e : Env} {R : Room} {s : State} {args : Array Value} {below : List Frame} {len W : Nat} {Z : State} {a0 : Array Value} {h : Heap} (hZ : Z.Warmed39 s.vm) (hw : ∀ d ∈ words, d.before a0 Z = true) {kI : Nat} (wi : (Jvm.Cond.instantiable ST kI).before a0 Z = true)
    {x b : Addr} {kC : ClassId} {cs bs : List Int32} {d v0 c0 : Value} {z N : Int32} {n n0 : Nat} (hx0 : n0 ≤ x) (hh0 : n0 ≤ h.size) (E : RoadKit.Exa Z h x ST) (V : RoadKit.Fld Z h x ST "value" "[B" v0) (C : RoadKit.Fld Z h x ST "coder" "B" c0) (K : RoadKit.Arv Z h b kC .char N (cs.map Value.int) d) (S : RoadKit.Sta Z h ST "COMPACT_STRINGS" "Z" (.int z)) (hz : ¬ z = 0)
    (hn : cs.length = n) (hN : N = Int32.ofNat n) (l0 : 0 < n) (l2 : n ≤ 4000) (hp : ∀ c ∈ cs, ¬ c < 0 ∧ ¬ (255 : Int32) < c) (hb : bs = cs.map (fun c => c.toInt8.toInt32)) (hfr : 4 ≤ R.frames) (hlo : W + 65 ≤ R.locals) :
    Back l R p e below s args (⟨"java/lang/String", "<init>", "([C)V"⟩ : MethodName) len W (fun P a => a = #[.ref x, .ref b] ∧ P.U.heap = h ∧ P.cells + 1 ≤ R.cells ∧ P.slots + n ≤ R.slots)
      (fun P _ v B => ∃ L, QV Z x N bs h n0 v B.U.heap L ∧ B.locs = P.locs ++ L ∧ B.cells = P.cells + 1 ∧ B.slots = P.slots + n) := by
  subst hn hN hb
  refine Back.mono (backArv hZ hw wi E V C K S hz (n32 (by omega)) l0 (by omega) (fun c hc => (hp c hc).2) hfr hlo) (fun P a hp => hp) (fun P a v B hp hq => ?_)
  obtain ⟨L, ⟨q1, q2, q3, q4, q5, q6, q7, ⟨kb, v1, v2⟩, q9⟩, hl, hc, hs⟩ := hq
  exact ⟨L, ⟨q1, fun y hy => by rw [q2 y hy]; exact hx0, q3, q5, q7, h.size, kb, hh0, Nat.le_refl _, Nat.ne_of_gt E.lt, q6, by rw [List.map_map]; exact v2⟩, hl, hc, hs⟩
end StrChars.Road
namespace StrChars
open Jvm Sem ClassFile Op Lib Jvm.Stand Jvm.Free.XT Jvm.Free.ALB Jvm.Free.JM Jvm.Free
open Jvm.Lib.Cold (StaticIs)
def hi8 (x : Int32) : Int32 := lo8 (x >>> ((8 : Int32) &&& 31))
/-- what StringUTF16.getChar makes of two bytes -/
def pairCh (u v : Int32) : Int32 := (((u &&& 255) <<< ((0 : Int32) &&& 31)) ||| ((v &&& 255) <<< ((8 : Int32) &&& 31))).toUInt32.toUInt16.toUInt32.toInt32
theorem shr0 (c : Int32) : c >>> ((0 : Int32) &&& 31) = c := by
  have e : ((0 : Int32) &&& 31) = 0 := by decide
  rw [e]
  apply Int32.toBitVec_inj.mp
  rw [Int32.toBitVec_shiftRight]
  have e1 : ((0 : Int32).toBitVec.smod 32) = 0#32 := by decide
  rw [e1, BitVec.sshiftRight_eq']
  exact BitVec.sshiftRight_zero
theorem lo8_and (x : Int32) : (lo8 x &&& 255).toBitVec.toNat = x.toBitVec.toNat % 256 := by
  have h : (lo8 x).toBitVec = (x.toBitVec.signExtend 8).signExtend 32 := by rw [lo8, Int8.toBitVec_toInt32, Int32.toBitVec_toInt8]
  rw [Int32.toBitVec_and, BitVec.toNat_and, h]
  have e : ((x.toBitVec.signExtend 8).signExtend 32).toNat % 256 = x.toBitVec.toNat % 256 := by
    rw [BitVec.toNat_signExtend]
    have hlt := x.toBitVec.isLt
    simp only [BitVec.toNat_setWidth, BitVec.toNat_signExtend]
    split <;> split <;> omega
  rw [← e]
  exact Nat.and_two_pow_sub_one_eq_mod _ 8
theorem pair_says {c : Int32} (h0 : ¬ c < 0) (h1 : ¬ 65535 < c) : pairCh (lo8 c) (hi8 c) = c := by
  rw [Int32.lt_iff_toInt_lt] at h0 h1
  have e0 : (0 : Int32).toInt = 0 := rfl
  have e1 : (65535 : Int32).toInt = 65535 := rfl
  have hc : c.toInt = c.toBitVec.toNat := by
    have := c.toBitVec.isLt
    have e : c.toInt = c.toBitVec.toInt := rfl
    rw [e] at h0 h1
    rw [e]
    rw [BitVec.toInt_eq_toNat_cond] at h0 h1 ⊢
    split at h0 <;> split <;> omega
  have hn : c.toBitVec.toNat < 65536 := by omega
  have a1 := lo8_and c
  have a2 : (hi8 c &&& 255).toBitVec.toNat = c.toBitVec.toNat / 256 := by
    rw [hi8, lo8_and]
    have e : ((8 : Int32) &&& 31) = 8 := by decide
    rw [e, Int32.toBitVec_shiftRight]
    have e2 : ((8 : Int32).toBitVec.smod 32) = 8#32 := by decide
    rw [e2, BitVec.sshiftRight_eq', BitVec.toNat_sshiftRight_of_msb_false (by rw [BitVec.msb_eq_false_iff_two_mul_lt]; omega)]
    show c.toBitVec.toNat >>> 8 % 256 = _
    rw [Nat.shiftRight_eq_div_pow]
    omega
  unfold pairCh
  apply Int32.toBitVec_inj.mp
  apply BitVec.eq_of_toNat_eq
  have f0 : ((0 : Int32) &&& 31) = 0 := by decide
  have f8 : ((8 : Int32) &&& 31) = 8 := by decide
  rw [f0, f8]
  have g : (((lo8 c &&& 255) <<< (0 : Int32)) ||| ((hi8 c &&& 255) <<< (8 : Int32))).toBitVec.toNat = c.toBitVec.toNat := by
    rw [Int32.toBitVec_or, Int32.toBitVec_shiftLeft, Int32.toBitVec_shiftLeft]
    have s0 : ((0 : Int32).toBitVec.smod 32) = 0#32 := by decide
    have s8 : ((8 : Int32).toBitVec.smod 32) = 8#32 := by decide
    rw [s0, s8, BitVec.toNat_or]
    simp only [BitVec.shiftLeft_eq', BitVec.toNat_shiftLeft, a1, a2]
    show (c.toBitVec.toNat % 256) <<< 0 % 2 ^ 32 ||| (c.toBitVec.toNat / 256) <<< 8 % 2 ^ 32 = _
    rw [Nat.shiftLeft_zero, Nat.mod_eq_of_lt (show c.toBitVec.toNat % 256 < 2 ^ 32 by omega), Nat.mod_eq_of_lt (show (c.toBitVec.toNat / 256) <<< 8 < 2 ^ 32 by rw [Nat.shiftLeft_eq]; omega), Nat.or_comm, ← Nat.shiftLeft_add_eq_or_of_lt (by omega), Nat.shiftLeft_eq]
    omega
  show BitVec.toNat (((((lo8 c &&& 255) <<< (0 : Int32)) ||| ((hi8 c &&& 255) <<< (8 : Int32))).toBitVec.setWidth 16).setWidth 32) = _
  rw [BitVec.toNat_setWidth, BitVec.toNat_setWidth, g]
  omega
end StrChars
namespace StrChars
open Jvm Sem ClassFile Op Lib Jvm.Stand Jvm.Free.XT Jvm.Free.ALB Jvm.Free.JM Jvm.Free
open Jvm.Lib.Cold (StaticIs)
theorem shr1 {n : Nat} (h : 2 * n < 2 ^ 31) : Int32.ofNat (2 * n) >>> ((1 : Int32) &&& 31) = Int32.ofNat n := by
  have e : ((1 : Int32) &&& 31) = 1 := by decide
  rw [e]
  apply Int32.toBitVec_inj.mp
  rw [Int32.toBitVec_shiftRight]
  have e1 : ((1 : Int32).toBitVec.smod 32) = 1#32 := by decide
  have hm : (BitVec.ofNat 32 (2 * n)).toNat = 2 * n := by rw [BitVec.toNat_ofNat, Nat.mod_eq_of_lt (by omega)]
  rw [e1, BitVec.sshiftRight_eq']
  apply BitVec.eq_of_toNat_eq
  show ((BitVec.ofNat 32 (2 * n)).sshiftRight 1).toNat = (BitVec.ofNat 32 n).toNat
  rw [BitVec.toNat_sshiftRight_of_msb_false (by rw [BitVec.msb_eq_false_iff_two_mul_lt, hm]; omega), hm, BitVec.toNat_ofNat, Nat.shiftRight_eq_div_pow]
  omega
/-- charAt's cast of a byte read back -/
def chr8 (u : Int32) : Int32 := (u &&& 255).toUInt32.toUInt16.toUInt32.toInt32
theorem chr8_lo8 {c : Int32} (h0 : ¬ c < 0) (h1 : ¬ 255 < c) : chr8 (lo8 c) = c := by
  have t : ∀ k : Fin 256, (Int32.ofNat k.val).toUInt32.toUInt16.toUInt32.toInt32 = Int32.ofNat k.val := by decide +kernel
  unfold chr8
  rw [lo8_mask h0 h1]
  rw [Int32.lt_iff_toInt_lt] at h0 h1
  have e0 : (0 : Int32).toInt = 0 := rfl
  have e1 : (255 : Int32).toInt = 255 := rfl
  obtain ⟨k, hk⟩ : ∃ k : Nat, c.toInt = k := ⟨c.toInt.toNat, by omega⟩
  have hx : c = Int32.ofNat k := Int32.toInt_inj.mp (by rw [hk, Int32.toInt_ofNat_small (by omega)])
  rw [hx]
  exact t ⟨k, by omega⟩
theorem narrow_ch {c : Int32} (h0 : ¬ c < 0) (h1 : ¬ 65535 < c) : narrow .char (.int c) = .int c := by
  have q : narrow .char (.int (pairCh (lo8 c) (hi8 c))) = .int (pairCh (lo8 c) (hi8 c)) := narrow_c _
  rwa [pair_says h0 h1] at q
/-- the array's cell V codes the n chars f 0 .. f (n - 1) by the coder cd, as the JDK does: coder 1 just where some char is above 255 -/
def Cod (cd : Int32) (n : Nat) (f : Nat → Int32) (V : Cell) : Prop := (cd = 0 ∧ V.slots.size = n ∧ ∀ j, j < n → V.slots[j]? = some (.int (lo8 (f j))) ∧ ¬ 255 < f j) ∨ (cd = 1 ∧ V.slots.size = 2 * n ∧ (∀ j, j < n → V.slots[2 * j]? = some (.int (lo8 (f j))) ∧ V.slots[2 * j + 1]? = some (.int (hi8 (f j)))) ∧ ∃ j, j < n ∧ 255 < f j)
theorem Cod.cd {cd : Int32} {n : Nat} {f : Nat → Int32} {V : Cell} (h : Cod cd n f V) : cd = 0 ∨ cd = 1 := h.imp (fun q => q.1) fun q => q.1
theorem Cod.len {cd : Int32} {n : Nat} {f : Nat → Int32} {V : Cell} (h : Cod cd n f V) (hs : V.slots.size < 2 ^ 31) : Int32.ofNat V.slots.size >>> (cd &&& 31) = Int32.ofNat n := by
  rcases h with ⟨rfl, h, -⟩ | ⟨rfl, h, -⟩
  · rw [shr0, h]
  · rw [h, shr1 (by omega)]
/-- **x is a String of the n chars f 0 .. f (n - 1)**, Latin-1 or UTF-16; its array at t has the cell V -/
def Txt (x t : Addr) (V : Cell) (cd : Int32) (n : Nat) (f : Nat → Int32) (U : State) : Prop := Exact "java/lang/String" x U ∧ Has x "java/lang/String" "value" "[B" (.ref t) U ∧ Has x "java/lang/String" "coder" "B" (.int cd) U ∧ XT.Arr .byte t V U ∧ Cod cd n f V ∧ ∀ j, j < n → ¬ f j < 0 ∧ ¬ 65535 < f j
theorem Txt.mv {x t : Addr} {V : Cell} {cd : Int32} {n : Nat} {f : Nat → Int32} {U U' : State} (h : Txt x t V cd n f U) (hal : U.vm.Alike U'.vm) (hh : U'.heap = U.heap) : Txt x t V cd n f U' := ⟨h.1.mv hal hh, h.2.1.mv hal hh, h.2.2.1.mv hal hh, h.2.2.2.1.mv hal hh, h.2.2.2.2⟩
namespace Cdr
def yN : MethodName := ⟨"java/lang/String", "coder", "()B"⟩
abbrev yB : ByteArray := jdk_42_method_152_code
theorem d0 : decode yB 0 = .ok (.getstatic 38, 3) := by decide +kernel
theorem d3 : decode yB 3 = .ok (.ifCond (.eq) 10, 3) := by decide +kernel
theorem d6 : decode yB 6 = .ok (.aload_n 0, 1) := by decide +kernel
theorem d7 : decode yB 7 = .ok (.getfield 15, 3) := by decide +kernel
theorem d10 : decode yB 10 = .ok (.goto 4, 3) := by decide +kernel
theorem d14 : decode yB 14 = .ok (.ireturn, 1) := by decide +kernel
def site : List Cond := [.fieldLink "java/lang/String" 38 "java/lang/String" "COMPACT_STRINGS" "Z", .fieldLink "java/lang/String" 15 "java/lang/String" "coder" "B"]
def tab : Cond := tabOf yN yB 1 (some .byte) site
def P (x : Addr) (cd z : Int32) (args : Array Value) (s : State) : Prop := args = #[.ref x] ∧ Has x "java/lang/String" "coder" "B" (.int cd) s ∧ (cd = 0 ∨ cd = 1) ∧ StaticIs s "java/lang/String" "COMPACT_STRINGS" "Z" (.int z) ∧ ¬ z = 0
def E (cd : Int32) (r : Option Value) (s u : State) : Prop := XT.PureE (some (.int cd)) r s u
theorem law (l : Launch) (x : Addr) (cd z : Int32) : Law l yN 1 0 0 0 yB 1 (some .byte) site (P x cd z) (E cd) [] 0 0 := by
  refine Law.of_walk (plainFor_of_name (by decide +kernel)) (by decide +kernel) (by decide +kernel) (by decide) (fun _ _ h => by rw [h.1]; rfl) (fun _ U U' hal hh h => ⟨h.1, h.2.1.mv hal hh, h.2.2.1, h.2.2.2.1.there hal hh, h.2.2.2.2⟩) (fun r U U' V V' h1 hal h2 h => XT.PureE.mv r U U' V V' h1 hal h2 h) ?_
  intro p e s m args below meth c s₁ X0 hexec hbytes hml hret hlk hnm hown hh0 W hP
  obtain ⟨rfl, hx, hc, s1, hz⟩ := hP
  have c1 : Steps p.tables e below (s₁.setTop (entryFrame m #[.ref x] 1)) (s₁.setTop (mkF m 0 #[.val (.ref x)] [])) := entry rfl
  obtain ⟨T2, X2, q2, st2⟩ := X0.sget hexec hown (wk W (.fieldLink "java/lang/String" 38 "java/lang/String" "COMPACT_STRINGS" "Z")) s1 (fun _ _ h => by rw [hh0]; exact h) (g := (mkF m 0 #[.val (.ref x)] [])) rfl (hb hbytes d0)
  have hh2 := q2.trans hh0
  have c3 : Steps p.tables e below (s₁.setTop (entryFrame m #[.ref x] 1)) (T2.setTop (mkF m 7 #[.val (.ref x)] [.ref x])) := (c1.trans (st2 _ (Steps.refl _))).trans (by
    refine XS.ifNo X2.here hexec rfl (hb hbytes d3) rfl (i0_eq_f hz) ?_
    refine XS.aloadN X2.here hexec rfl (hb hbytes d6) rfl rfl ?_
    exact Steps.refl _)
  obtain ⟨T4, X4, q4, st4⟩ := X2.hget hexec hown (wk W (.fieldLink "java/lang/String" 15 "java/lang/String" "coder" "B")) (hx.mv X2.warmed.alike hh2) (g := (mkF m 7 #[.val (.ref x)] [.ref x])) rfl (rest := []) rfl (hb hbytes d7)
  have c5 : Steps p.tables e below (s₁.setTop (entryFrame m #[.ref x] 1)) (T4.setTop (mkF m 14 #[.val (.ref x)] [.int cd])) := (c3.trans (st4 _ (Steps.refl _))).trans (by
    refine XS.goto X4.here hexec rfl (pc0 := 10) rfl (hb hbytes d10) (by decide) rfl ?_
    exact Steps.refl _)
  exact ⟨T4, some (.int cd), _, _, _, X4, rfl, rfl, rfl, (fun h => by cases h), ⟨rfl, q4.trans hh2⟩, fun fs hl => c5.trans (X4.ireturnOut hexec hret (by rcases hc with rfl | rfl <;> rfl) (Or.inr (Or.inr (Or.inl rfl))) (hb hbytes d14) hl)⟩
end Cdr
namespace Len
def yN : MethodName := ⟨"java/lang/String", "length", "()I"⟩
abbrev yB : ByteArray := jdk_42_method_54_code
theorem d0 : decode yB 0 = .ok (.aload_n 0, 1) := by decide +kernel
theorem d1 : decode yB 1 = .ok (.getfield 9, 3) := by decide +kernel
theorem d4 : decode yB 4 = .ok (.arraylength, 1) := by decide +kernel
theorem d5 : decode yB 5 = .ok (.aload_n 0, 1) := by decide +kernel
theorem d6 : decode yB 6 = .ok (.invokevirtual 335, 3) := by decide +kernel
theorem d9 : decode yB 9 = .ok (.ishr, 1) := by decide +kernel
theorem d10 : decode yB 10 = .ok (.ireturn, 1) := by decide +kernel
def site : List Cond := [.fieldLink "java/lang/String" 9 "java/lang/String" "value" "[B", Cdr.tab] ++ virtW "java/lang/String" 335 "java/lang/String" Cdr.yN Cdr.yN
def tab : Cond := tabOf yN yB 1 (some .int) site
def P (x t : Addr) (V : Cell) (cd : Int32) (n : Nat) (f : Nat → Int32) (z : Int32) (args : Array Value) (s : State) : Prop := args = #[.ref x] ∧ Txt x t V cd n f s ∧ StaticIs s "java/lang/String" "COMPACT_STRINGS" "Z" (.int z) ∧ ¬ z = 0
def E (n : Nat) (r : Option Value) (s u : State) : Prop := XT.PureE (some (.int (Int32.ofNat n))) r s u
/-- length() of a String of n chars, in either coding -/
theorem law (l : Launch) (x t : Addr) (V : Cell) (cd : Int32) (n : Nat) (f : Nat → Int32) (z : Int32) : Law l yN 1 0 1 13 yB 1 (some .int) site (P x t V cd n f z) (E n) [] 0 0 := by
  refine Law.of_walk (plainFor_of_name (by decide +kernel)) (by decide +kernel) (by decide +kernel) (by decide) (fun _ _ h => by rw [h.1]; rfl) (fun _ U U' hal hh h => ⟨h.1, h.2.1.mv hal hh, h.2.2.1.there hal hh, h.2.2.2⟩) (fun r U U' V V' h1 hal h2 h => XT.PureE.mv r U U' V V' h1 hal h2 h) ?_
  intro p e s m args below meth c s₁ X0 hexec hbytes hml hret hlk hnm hown hh0 W hP
  obtain ⟨rfl, hx, s1, hz⟩ := hP
  have v31 := hx.2.2.2.1.2.2.2
  have c1 : Steps p.tables e below (s₁.setTop (entryFrame m #[.ref x] 1)) (s₁.setTop (mkF m 1 #[.val (.ref x)] [.ref x])) := Steps.trans (entry rfl) (by
    show Steps p.tables e below (s₁.setTop (mkF m 0 #[.val (.ref x)] [])) _
    refine XS.aloadN X0.here hexec rfl (hb hbytes d0) rfl rfl ?_
    exact Steps.refl _)
  obtain ⟨T2, X2, q2, st2⟩ := X0.hget hexec hown (wk W (.fieldLink "java/lang/String" 9 "java/lang/String" "value" "[B")) (hx.mv X0.warmed.alike hh0).2.1 (g := (mkF m 1 #[.val (.ref x)] [.ref x])) rfl (rest := []) rfl (hb hbytes d1)
  have hh2 := q2.trans hh0
  have hx2 := hx.mv X2.warmed.alike hh2
  have c3 : Steps p.tables e below (s₁.setTop (entryFrame m #[.ref x] 1)) (T2.setTop (mkF m 6 #[.val (.ref x)] [.ref x, .int (Int32.ofNat V.slots.size)])) := (c1.trans (st2 _ (Steps.refl _))).trans (by
    refine X2.alen hexec hx2.2.2.2.1 rfl rfl (hb hbytes d4) ?_
    refine XS.aloadN X2.here hexec rfl (hb hbytes d5) rfl rfl ?_
    exact Steps.refl _)
  obtain ⟨v4, T4, X4, E4, g4⟩ := X2.callV hexec (Cdr.law l x cd z) hown (wks W (virtW "java/lang/String" 335 "java/lang/String" Cdr.yN Cdr.yN)) rfl (by decide) (wk W Cdr.tab) (W := 1) (Nat.le_of_ble_eq_true rfl) (Nat.le_of_ble_eq_true rfl) (Nat.le_refl _) (Nat.le_refl _) (hx2.1.fc X2.warmed.alike) hx2.1.is (g := (mkF m 6 #[.val (.ref x)] [.ref x, .int (Int32.ofNat V.slots.size)])) rfl (by rw [hml]; rfl) c3 (argsL := []) (rest := [.int (Int32.ofNat V.slots.size)]) rfl rfl (by show 2 * 0 + (1 + 0) ≤ _; decide) (hb hbytes d6) (⟨rfl, hx2.2.2.1, hx.2.2.2.2.1.cd, s1.there X2.warmed.alike hh2, hz⟩)
  obtain ⟨rfl, q4⟩ := E4
  have c5 : Steps p.tables e below (s₁.setTop (entryFrame m #[.ref x] 1)) (T4.setTop (mkF m 10 #[.val (.ref x)] [.int (Int32.ofNat V.slots.size >>> (cd &&& 31))])) := Steps.trans g4 (by
    refine ishr X4.here hexec rfl (hb hbytes d9) rfl ?_
    exact Steps.refl _)
  rw [hx.2.2.2.2.1.len v31] at c5
  exact ⟨T4, some (.int (Int32.ofNat n)), _, _, _, X4, rfl, rfl, rfl, (fun h => by cases h), ⟨rfl, q4.trans hh2⟩, fun fs hl => c5.trans (X4.ireturnOut hexec hret rfl (Or.inl rfl) (hb hbytes d10) hl)⟩
theorem pays {l : Launch} {R : Room} {p : Program} {e : Env} {below : List Frame} {s : State} {sargs : Array Value} {len W : Nat} (x t : Addr) (V : Cell) (cd : Int32) (n : Nat) (f : Nat → Int32) (z : Int32) (htab : tab.before sargs s = true) (hfr : 2 ≤ R.frames) (hlo : W + 25 ≤ R.locals) :
    Back l R p e below s sargs yN len W (fun A₁ a₁ => A₁.cells + 0 ≤ R.cells ∧ A₁.slots + 0 ≤ R.slots ∧ P x t V cd n f z a₁ A₁.U) (fun A₁ _ v₁ B₁ => E n v₁ A₁.U B₁.U ∧ B₁.locs = A₁.locs ++ [] ∧ B₁.cells = A₁.cells + 0 ∧ B₁.slots = A₁.slots + 0) :=
  (law l x t V cd n f z).pays htab hfr (by omega)
end Len
namespace IsL
def yN : MethodName := ⟨"java/lang/String", "isLatin1", "()Z"⟩
abbrev yB : ByteArray := jdk_42_method_154_code
theorem d0 : decode yB 0 = .ok (.getstatic 38, 3) := by decide +kernel
theorem d3 : decode yB 3 = .ok (.ifCond (.eq) 14, 3) := by decide +kernel
theorem d6 : decode yB 6 = .ok (.aload_n 0, 1) := by decide +kernel
theorem d7 : decode yB 7 = .ok (.getfield 15, 3) := by decide +kernel
theorem d10 : decode yB 10 = .ok (.ifCond (.ne) 7, 3) := by decide +kernel
theorem d13 : decode yB 13 = .ok (.iconst 1, 1) := by decide +kernel
theorem d14 : decode yB 14 = .ok (.goto 4, 3) := by decide +kernel
theorem d17 : decode yB 17 = .ok (.iconst 0, 1) := by decide +kernel
theorem d18 : decode yB 18 = .ok (.ireturn, 1) := by decide +kernel
def site : List Cond := [.fieldLink "java/lang/String" 38 "java/lang/String" "COMPACT_STRINGS" "Z", .fieldLink "java/lang/String" 15 "java/lang/String" "coder" "B"]
def tab : Cond := tabOf yN yB 1 (some .boolean) site
def P (x : Addr) (cd z : Int32) (args : Array Value) (s : State) : Prop := args = #[.ref x] ∧ Has x "java/lang/String" "coder" "B" (.int cd) s ∧ (cd = 0 ∨ cd = 1) ∧ StaticIs s "java/lang/String" "COMPACT_STRINGS" "Z" (.int z) ∧ ¬ z = 0
def E (cd : Int32) (r : Option Value) (s u : State) : Prop := XT.PureE (some (.int (1 - cd))) r s u
theorem law (l : Launch) (x : Addr) (cd z : Int32) : Law l yN 1 0 0 0 yB 1 (some .boolean) site (P x cd z) (E cd) [] 0 0 := by
  refine Law.of_walk (plainFor_of_name (by decide +kernel)) (by decide +kernel) (by decide +kernel) (by decide) (fun _ _ h => by rw [h.1]; rfl) (fun _ U U' hal hh h => ⟨h.1, h.2.1.mv hal hh, h.2.2.1, h.2.2.2.1.there hal hh, h.2.2.2.2⟩) (fun r U U' V V' h1 hal h2 h => XT.PureE.mv r U U' V V' h1 hal h2 h) ?_
  intro p e s m args below meth c s₁ X0 hexec hbytes hml hret hlk hnm hown hh0 W hP
  obtain ⟨rfl, hx, hc, s1, hz⟩ := hP
  have c1 : Steps p.tables e below (s₁.setTop (entryFrame m #[.ref x] 1)) (s₁.setTop (mkF m 0 #[.val (.ref x)] [])) := entry rfl
  obtain ⟨T2, X2, q2, st2⟩ := X0.sget hexec hown (wk W (.fieldLink "java/lang/String" 38 "java/lang/String" "COMPACT_STRINGS" "Z")) s1 (fun _ _ h => by rw [hh0]; exact h) (g := (mkF m 0 #[.val (.ref x)] [])) rfl (hb hbytes d0)
  have hh2 := q2.trans hh0
  have c3 : Steps p.tables e below (s₁.setTop (entryFrame m #[.ref x] 1)) (T2.setTop (mkF m 7 #[.val (.ref x)] [.ref x])) := (c1.trans (st2 _ (Steps.refl _))).trans (by
    refine XS.ifNo X2.here hexec rfl (hb hbytes d3) rfl (i0_eq_f hz) ?_
    refine XS.aloadN X2.here hexec rfl (hb hbytes d6) rfl rfl ?_
    exact Steps.refl _)
  obtain ⟨T4, X4, q4, st4⟩ := X2.hget hexec hown (wk W (.fieldLink "java/lang/String" 15 "java/lang/String" "coder" "B")) (hx.mv X2.warmed.alike hh2) (g := (mkF m 7 #[.val (.ref x)] [.ref x])) rfl (rest := []) rfl (hb hbytes d7)
  have c5 : Steps p.tables e below (s₁.setTop (entryFrame m #[.ref x] 1)) (T4.setTop (mkF m 10 #[.val (.ref x)] [.int cd])) := c3.trans (st4 _ (Steps.refl _))
  have c6 : Steps p.tables e below (s₁.setTop (entryFrame m #[.ref x] 1)) (T4.setTop (mkF m 18 #[.val (.ref x)] [.int (1 - cd)])) := by
    rcases hc with rfl | rfl
    · exact c5.trans (by
        refine XS.ifNo X4.here hexec rfl (hb hbytes d10) rfl (i0_ne_f rfl) ?_
        refine iconstV X4.here hexec rfl 1 (hb hbytes d13) (by decide) ?_
        refine XS.goto X4.here hexec rfl (pc0 := 14) rfl (hb hbytes d14) (by decide) rfl ?_
        exact Steps.refl _)
    · exact c5.trans (by
        refine XS.ifYes X4.here hexec rfl (pc0 := 10) rfl (hb hbytes d10) rfl (i0_ne_t (by decide)) (by decide) rfl ?_
        refine iconstV X4.here hexec rfl 0 (hb hbytes d17) (by decide) ?_
        exact Steps.refl _)
  exact ⟨T4, some (.int (1 - cd)), _, _, _, X4, rfl, rfl, rfl, (fun h => by cases h), ⟨rfl, q4.trans hh2⟩, fun fs hl => c6.trans (X4.ireturnOut hexec hret (by rcases hc with rfl | rfl <;> rfl) (Or.inr (Or.inl rfl)) (hb hbytes d18) hl)⟩
end IsL
namespace LChA
def yN : MethodName := ⟨"java/lang/StringLatin1", "charAt", "([BI)C"⟩
abbrev yB : ByteArray := jdk_43_method_2_code
theorem d0 : decode yB 0 = .ok (.iload_n 1, 1) := by decide +kernel
theorem d1 : decode yB 1 = .ok (.aload_n 0, 1) := by decide +kernel
theorem d2 : decode yB 2 = .ok (.arraylength, 1) := by decide +kernel
theorem d3 : decode yB 3 = .ok (.invokestatic 9, 3) := by decide +kernel
theorem d6 : decode yB 6 = .ok (.aload_n 0, 1) := by decide +kernel
theorem d7 : decode yB 7 = .ok (.iload_n 1, 1) := by decide +kernel
theorem d8 : decode yB 8 = .ok (.baload, 1) := by decide +kernel
theorem d9 : decode yB 9 = .ok (.sipush 255, 3) := by decide +kernel
theorem d12 : decode yB 12 = .ok (.iand, 1) := by decide +kernel
theorem d13 : decode yB 13 = .ok (.i2c, 1) := by decide +kernel
theorem d14 : decode yB 14 = .ok (.ireturn, 1) := by decide +kernel
def site : List Cond := [JO.Str_checkIndex.tab] ++ staticW "java/lang/StringLatin1" 9 JO.Str_checkIndex.yN
def tab : Cond := tabOf yN yB 2 (some .char) site
def P (t : Addr) (V : Cell) (i : Nat) (u : Int32) (fm : Value) (args : Array Value) (s : State) : Prop := args = #[.ref t, .int (Int32.ofNat i)] ∧ XT.Arr .byte t V s ∧ V.slots[i]? = some (.int u) ∧ (StaticIs s "jdk/internal/util/Preconditions" "SIOOBE_FORMATTER" "Ljava/util/function/BiFunction;" fm ∧ fm.isRef = true)
def E (u : Int32) (r : Option Value) (s w : State) : Prop := XT.PureE (some (.int (chr8 u))) r s w
theorem law (l : Launch) (t : Addr) (V : Cell) (i : Nat) (u : Int32) (fm : Value) : Law l yN 2 2 2 27 yB 2 (some .char) site (P t V i u fm) (E u) [] 0 0 := by
  refine Law.of_walk (plainFor_of_name (by decide +kernel)) (by decide +kernel) (by decide +kernel) (by decide) (fun _ _ h => by rw [h.1]; rfl) (fun _ U U' hal hh h => ⟨h.1, h.2.1.mv hal hh, h.2.2.1, h.2.2.2.1.there hal hh, h.2.2.2.2⟩) (fun r U U' V V' h1 hal h2 h => XT.PureE.mv r U U' V V' h1 hal h2 h) ?_
  intro p e s m args below meth c s₁ X0 hexec hbytes hml hret hlk hnm hown hh0 W hP
  obtain ⟨rfl, hV, hu, s1, rf⟩ := hP
  have v31 := hV.2.2.2
  have hi : i < V.slots.size := (Array.getElem?_eq_some_iff.mp hu).1
  have c1 : Steps p.tables e below (s₁.setTop (entryFrame m #[.ref t, .int (Int32.ofNat i)] 2)) (s₁.setTop (mkF m 0 #[.val (.ref t), .val (.int (Int32.ofNat i))] [])) := entry rfl
  have c2 : Steps p.tables e below (s₁.setTop (entryFrame m #[.ref t, .int (Int32.ofNat i)] 2)) (s₁.setTop (mkF m 3 #[.val (.ref t), .val (.int (Int32.ofNat i))] [.int (Int32.ofNat V.slots.size), .int (Int32.ofNat i)])) := c1.trans (by
    refine XS.iloadN X0.here hexec rfl (hb hbytes d0) rfl ?_
    refine XS.aloadN X0.here hexec rfl (hb hbytes d1) rfl rfl ?_
    refine X0.alen hexec (hV.mv X0.warmed.alike hh0) rfl rfl (hb hbytes d2) ?_
    exact Steps.refl _)
  obtain ⟨v3, T3, X3, E3, g3⟩ := X0.callS hexec (JO.Str_checkIndex.law l (Int32.ofNat i) (Int32.ofNat V.slots.size) fm) hown (wks W (staticW "java/lang/StringLatin1" 9 JO.Str_checkIndex.yN)) (wk W JO.Str_checkIndex.tab) (W := 0) (Nat.le_of_ble_eq_true rfl) (Nat.le_of_ble_eq_true rfl) (Nat.le_refl _) (Nat.le_refl _) (g := (mkF m 3 #[.val (.ref t), .val (.int (Int32.ofNat i))] [.int (Int32.ofNat V.slots.size), .int (Int32.ofNat i)])) rfl (by rw [hml]; rfl) c2 (argsL := [.int (Int32.ofNat i), .int (Int32.ofNat V.slots.size)]) (rest := []) rfl rfl (by show 2 * 0 + 0 ≤ _; decide) (hb hbytes d3) (⟨rfl, rf, s1.there X0.warmed.alike hh0, Int32.ofNat_not_neg (by omega), lt32 v31 hi⟩)
  obtain ⟨rfl, q3⟩ := E3
  have hh3 := q3.trans hh0
  have c4 : Steps p.tables e below (s₁.setTop (entryFrame m #[.ref t, .int (Int32.ofNat i)] 2)) (T3.setTop (mkF m 14 #[.val (.ref t), .val (.int (Int32.ofNat i))] [.int (chr8 u)])) := Steps.trans g3 (by
    refine XS.aloadN X3.here hexec rfl (hb hbytes d6) rfl rfl ?_
    refine XS.iloadN X3.here hexec rfl (hb hbytes d7) rfl ?_
    refine X3.aget hexec (hV.mv X3.warmed.alike hh3) rfl hu rfl rfl (hb hbytes d8) ?_
    refine sipushV X3.here hexec rfl 255 (hb hbytes d9) (by decide) ?_
    refine XS.iand X3.here hexec rfl (hb hbytes d12) rfl ?_
    refine i2c X3.here hexec rfl (hb hbytes d13) rfl ?_
    exact Steps.refl _)
  exact ⟨T3, some (.int (chr8 u)), _, _, _, X3, rfl, rfl, rfl, (fun h => by cases h), ⟨rfl, hh3⟩, fun fs hl => c4.trans (X3.ireturnOut hexec hret (narrow_c _) (Or.inr (Or.inr (Or.inr (Or.inl rfl)))) (hb hbytes d14) hl)⟩
end LChA
end StrChars
namespace StrChars.Road
open Jvm Sem ClassFile Op Lib Jvm.Stand Jvm.Free Jvm.Free.XT
open Jvm.Lib.Cold (StaticIs)
theorem consq {a : Array Value} {s : State} {c : Jvm.Cond} {L : List Jvm.Cond} (h0 : c.before a s = true) (h : ∀ w ∈ L, w.before a s = true) : ∀ w ∈ c :: L, w.before a s = true := fun w hw => (List.mem_cons.mp hw).elim (fun e => e ▸ h0) (h w)
/-- the words of String.length(), either coding -/
abbrev wordsLen : List Jvm.Cond := [.code Len.yN Len.yB 1 (some .int), .initialized ST, .fieldLink ST 9 ST "value" "[B", .fieldLink ST 38 ST "COMPACT_STRINGS" "Z", .fieldLink ST 15 ST "coder" "B", .code Cdr.yN Cdr.yB 1 (some .byte), .methodLink ST 335 Cdr.yN, .declares Cdr.yN, .selects ST Cdr.yN Cdr.yN, .instanceMethod Cdr.yN]
theorem tabLen_of {a : Array Value} {s : State} (h : ∀ w ∈ wordsLen, w.before a s = true) : Len.tab.before a s = true := by
  have hc : Cdr.tab.before a s = true := unparts (wk h (.code Cdr.yN Cdr.yB 1 (some .byte))) (wks h (.initialized Cdr.yN.cls :: Cdr.site))
  have q := consq hc h
  exact unparts (wk q (.code Len.yN Len.yB 1 (some .int))) (wks q (.initialized Len.yN.cls :: Len.site))
theorem movedLen {Z s : State} {a0 args : Array Value} (hZ : Z.Warmed39 s.vm) (hw : ∀ d ∈ wordsLen, d.before a0 Z = true) : ∀ d ∈ wordsLen, d.before args s = true := fun d hd => by
  have q := hw d hd
  have t : ∀ d ∈ wordsLen, d = .arrayClass .byte ∨ (d.onTables && d.keepsFace) = true := by decide +kernel
  rcases t d hd with rfl | t
  · exact RoadKit.mvA hZ q
  · exact RoadKit.mv hZ q t
/-- the bytes of the chars cs, low before high -/
def wideBytes : List Int32 → List Value
  | [] => []
  | c :: cs => .int (lo8 c) :: .int (hi8 c) :: wideBytes cs
theorem wide_lo (d : Value) : ∀ (cs : List Int32) (j : Nat), j < cs.length → (wideBytes cs).getD (2 * j) d = .int (lo8 (cs.getD j 0))
  | [], j, h => absurd h (Nat.not_lt_zero j)
  | c :: cs, 0, _ => rfl
  | c :: cs, j + 1, h => by
    have q := wide_lo d cs j (by simpa using h)
    rw [show 2 * (j + 1) = 2 * j + 1 + 1 from by omega]
    simpa [wideBytes] using q
theorem wide_hi (d : Value) : ∀ (cs : List Int32) (j : Nat), j < cs.length → (wideBytes cs).getD (2 * j + 1) d = .int (hi8 (cs.getD j 0))
  | [], j, h => absurd h (Nat.not_lt_zero j)
  | c :: cs, 0, _ => rfl
  | c :: cs, j + 1, h => by
    have q := wide_hi d cs j (by simpa using h)
    rw [show 2 * (j + 1) + 1 = 2 * j + 1 + 1 + 1 from by omega]
    simpa [wideBytes] using q
theorem low_at (d : Value) (cs : List Int32) (j : Nat) (h : j < cs.length) : (cs.map fun c => Value.int (lo8 c)).getD j d = .int (lo8 (cs.getD j 0)) := by
  simp [List.getD_eq_getElem?_getD, h]
/-- an array of N2 bytes vs codes the chars cs by the coder cd -/
def CodA (cs : List Int32) (cd N2 : Int32) (vs : List Value) : Prop := (cd = 0 ∧ N2 = Int32.ofNat cs.length ∧ vs = (cs.map fun c => Value.int (lo8 c)) ∧ ∀ c ∈ cs, ¬ 255 < c) ∨ (cd = 1 ∧ N2 = Int32.ofNat (2 * cs.length) ∧ vs = wideBytes cs ∧ ∃ c ∈ cs, 255 < c)
theorem CodA.cod {cs : List Int32} {cd N2 : Int32} {vs : List Value} {V : Cell} (h : CodA cs cd N2 vs) (hn : 2 * cs.length < 2 ^ 31) (hs : V.slots.size = N2.toNatClampNeg) (hv : RoadKit.Has V vs (.int 0)) : Cod cd cs.length (fun j => cs.getD j 0) V := by
  rcases h with ⟨rfl, rfl, rfl, h⟩ | ⟨rfl, rfl, rfl, c, hc, hw⟩
  · rw [n32 (by omega)] at hs
    exact Or.inl ⟨rfl, hs, fun j hj => ⟨by rw [hv j (by omega), low_at _ _ _ hj], by
      have e : cs.getD j 0 = cs[j] := by simp [List.getD_eq_getElem?_getD, hj]
      show ¬ 255 < cs.getD j 0
      rw [e]; exact h _ (List.getElem_mem _)⟩⟩
  · rw [n32 (by omega)] at hs
    obtain ⟨j, hj, rfl⟩ := List.getElem_of_mem hc
    exact Or.inr ⟨rfl, hs, fun j hj => ⟨by rw [hv _ (by omega), wide_lo _ _ _ hj], by rw [hv _ (by omega), wide_hi _ _ _ hj]⟩, j, hj, by
      have e : cs.getD j 0 = cs[j] := by simp [List.getD_eq_getElem?_getD, hj]
      show 255 < cs.getD j 0
      rw [e]; exact hw⟩
/-- an object of exactly java/lang/String, its two fields found: as the laws ask it -/
theorem strObj {Z U : State} {a0 : Array Value} {kI : Nat} (wi : (Jvm.Cond.instantiable ST kI).before a0 Z = true) (al : Z.vm.Alike U.vm) {x : Addr} {v0 c0 : Value} (E : RoadKit.Exa Z U.heap x ST) (V : RoadKit.Fld Z U.heap x ST "value" "[B" v0) (C : RoadKit.Fld Z U.heap x ST "coder" "B" c0) :
    ∃ (D : Cell) (fV fC : Field), Blank ST x D U ∧ Found ST "value" "[B" fV U ∧ Found ST "coder" "B" fC U ∧ D.slots[fV.slot]? = some v0 ∧ D.slots[fC.slot]? = some c0 ∧ RoadKit.slotOf Z ST "value" "[B" = fV.slot ∧ RoadKit.slotOf Z ST "coder" "B" = fC.slot := by
  obtain ⟨D, cfV, kV, iV, fV, hD, gV, stV, knV, obV, asV, slV⟩ := V
  obtain ⟨D', cfC, kC, iC, fC, hD', gC, stC, -, -, asC, slC⟩ := C
  cases hD.symm.trans hD'
  obtain ⟨D2, kD, e1, e2, e3, e4, e5⟩ := E
  cases hD.symm.trans e1
  obtain ⟨c2, k2, i1, i2, i3, -⟩ := Cond.instantiable_spec wi
  cases e2.symm.trans i1
  cases e3.symm.trans i2
  obtain ⟨kU, u1, u2⟩ := al.2.2 _ _ e3
  exact ⟨D, fV, fC, ⟨hD, ⟨knV, fun q hq => by rw [hq] at obV; cases obV⟩, by rw [al.findClass]; exact e2, kU, u1, by rw [u2]; exact i3, by rw [u2]; exact e5 i3⟩, ⟨SBG.found_only al ⟨cfV, kV, iV, gV⟩, stV⟩, ⟨SBG.found_only al ⟨cfC, kC, iC, gC⟩, stC⟩, slV, slC, by simp [RoadKit.slotOf, gV], by simp [RoadKit.slotOf, gC]⟩
theorem sta_is {Z U : State} (al : Z.vm.Alike U.vm) {C n d : String} {v : Value} (S : RoadKit.Sta Z U.heap C n d v) : StaticIs U C n d v := by
  obtain ⟨cfS, iS, kS, fS, st, cS, t1, t2, t3, t4, t5, t6, t7⟩ := S
  exact StaticIs.there (s := { Z with heap := U.heap }) ⟨cfS, iS, kS, fS, st, cS, t1, t2, t3, t4, t5, (fun q => by rw [q] at t6; cases t6), t7⟩ al rfl
/-- **length() OF SUCH A STRING** -/
theorem lenW {p : Program} {l : Launch} {e : Env} {R : Room} {s : State} {args : Array Value} {below : List Frame} {len W : Nat} {Z : State} {a0 : Array Value} {h : Heap} (hZ : Z.Warmed39 s.vm) (hw : ∀ d ∈ wordsLen, d.before a0 Z = true) {kI : Nat} (wi : (Jvm.Cond.instantiable ST kI).before a0 Z = true)
    {x t : Addr} {kb : ClassId} {cs : List Int32} {cd N2 z : Int32} {vs : List Value} (E : RoadKit.Exa Z h x ST) (V : RoadKit.Fld Z h x ST "value" "[B" (.ref t)) (C : RoadKit.Fld Z h x ST "coder" "B" (.int cd)) (K : RoadKit.Arv Z h t kb .byte N2 vs (.int 0)) (hc : CodA cs cd N2 vs) (hb : ∀ c ∈ cs, ¬ c < 0 ∧ ¬ (65535 : Int32) < c)
    (S : RoadKit.Sta Z h ST "COMPACT_STRINGS" "Z" (.int z)) (hz : ¬ z = 0) (l2 : cs.length ≤ 4000) (hfr : 2 ≤ R.frames) (hlo : W + 25 ≤ R.locals) :
    Back l R p e below s args (⟨"java/lang/String", "length", "()I"⟩ : MethodName) len W (fun P a => a = #[.ref x] ∧ P.U.heap = h ∧ P.cells + 0 ≤ R.cells ∧ P.slots + 0 ≤ R.slots)
      (fun P _ v B => ∃ L, (v = some (.int (Int32.ofNat cs.length)) ∧ L = [] ∧ B.U.heap = h) ∧ B.locs = P.locs ++ L ∧ B.cells = P.cells + 0 ∧ B.slots = P.slots + 0) := by
  obtain ⟨A, K1, K2, K3, K4, K5, K6⟩ := K
  have hcod := hc.cod (by omega) K3 K5
  intro m meth c P g ig mk a X hg hsize hdg hW hn hp'
  obtain ⟨rfl, rfl, r1, r2⟩ := hp'
  have al : Z.vm.Alike P.U.vm := hZ.alike.trans X.warmed.alike
  obtain ⟨D, fV, fC, hB, F1, F2, g1, g2, -, -⟩ := strObj wi al E V C
  have hx : Txt x t A cd cs.length (fun j => cs.getD j 0) P.U := ⟨⟨_, hB.2.2.1, D, hB.1, rfl, by cases q : D.vm <;> first | rfl | exact absurd q (hB.2.1.2 _)⟩, Has.of hB F1 g1, Has.of hB F2 g2, ⟨K1.1, State.isArrayOf_alike al K1.2.1, K1.2.2, by rcases hcod with ⟨-, q, -⟩ | ⟨-, q, -⟩ <;> omega⟩, hcod, fun j hj => by
    have e : cs.getD j 0 = cs[j] := by simp [List.getD_eq_getElem?_getD, hj]
    show ¬ cs.getD j 0 < 0 ∧ ¬ 65535 < cs.getD j 0
    rw [e]; exact hb _ (List.getElem_mem _)⟩
  obtain ⟨v, B, X', ⟨⟨hv, hh⟩, hl, hk, hs⟩, st⟩ := Len.pays x t A cd cs.length (fun j => cs.getD j 0) z (tabLen_of (movedLen hZ hw)) hfr hlo m meth c P g ig mk _ X hg hsize hdg hW hn ⟨r1, r2, rfl, hx, sta_is al S, hz⟩
  exact ⟨v, B, X', ⟨[], ⟨hv, rfl, hh⟩, hl, hk, hs⟩, st⟩
end StrChars.Road
namespace StrChars
open Jvm Sem ClassFile Op Lib Jvm.Stand Jvm.Free.XT Jvm.Free.ALB Jvm.Free.JM Jvm.Free
open Jvm.Lib.Cold (StaticIs)
/-- what place i of a byte[]'s cell holds -/
def yv (A : Cell) (i : Nat) : Int32 := match A.slots[i]? with | some (.int x) => x | _ => 0
theorem yv_get {a : Addr} {A : Cell} {U : State} (h : XT.Arr .byte a A U) (ht : Typed .byte A) {i : Nat} (hi : i < A.slots.size) : A.slots[i]? = some (.int (yv A i)) := by
  have e := Array.getElem?_eq_getElem hi
  have f := ht i _ e
  unfold yv; rw [e]
  generalize A.slots[i] = v at f
  cases v <;> simp [fits] at f ⊢
/-- the two arrays are equal, place for place -/
def EqC (A B : Cell) : Prop := A.slots.size = B.slots.size ∧ ∀ i, i < A.slots.size → yv A i = yv B i
/-- a boolean that says whether p -/
def Says01 (q : Prop) (r : Option Value) (s u : State) : Prop := ∃ v : Int32, r = some (.int v) ∧ u.heap = s.heap ∧ ((v = 1 ∧ q) ∨ (v = 0 ∧ ¬ q))
theorem Says01.mv {q : Prop} : ∀ r (U U' V V' : State), U'.heap = U.heap → V.vm.Alike V'.vm → V'.heap = V.heap → Says01 q r U V → Says01 q r U' V' :=
  fun r U U' V V' h1 _ h2 ⟨v, a, b, c⟩ => ⟨v, a, by rw [h1, h2]; exact b, c⟩
namespace LEq
def yN : MethodName := ⟨"java/lang/StringLatin1", "equals", "([B[B)Z"⟩
abbrev yB : ByteArray := jdk_43_method_13_code
theorem d0 : decode yB 0 = .ok (.aload_n 0, 1) := by decide +kernel
theorem d1 : decode yB 1 = .ok (.arraylength, 1) := by decide +kernel
theorem d2 : decode yB 2 = .ok (.aload_n 1, 1) := by decide +kernel
theorem d3 : decode yB 3 = .ok (.arraylength, 1) := by decide +kernel
theorem d4 : decode yB 4 = .ok (.if_icmp (.ne) 30, 3) := by decide +kernel
theorem d7 : decode yB 7 = .ok (.iconst 0, 1) := by decide +kernel
theorem d8 : decode yB 8 = .ok (.istore_n 2, 1) := by decide +kernel
theorem d9 : decode yB 9 = .ok (.iload_n 2, 1) := by decide +kernel
theorem d10 : decode yB 10 = .ok (.aload_n 0, 1) := by decide +kernel
theorem d11 : decode yB 11 = .ok (.arraylength, 1) := by decide +kernel
theorem d12 : decode yB 12 = .ok (.if_icmp (.ge) 20, 3) := by decide +kernel
theorem d15 : decode yB 15 = .ok (.aload_n 0, 1) := by decide +kernel
theorem d16 : decode yB 16 = .ok (.iload_n 2, 1) := by decide +kernel
theorem d17 : decode yB 17 = .ok (.baload, 1) := by decide +kernel
theorem d18 : decode yB 18 = .ok (.aload_n 1, 1) := by decide +kernel
theorem d19 : decode yB 19 = .ok (.iload_n 2, 1) := by decide +kernel
theorem d20 : decode yB 20 = .ok (.baload, 1) := by decide +kernel
theorem d21 : decode yB 21 = .ok (.if_icmp (.eq) 5, 3) := by decide +kernel
theorem d24 : decode yB 24 = .ok (.iconst 0, 1) := by decide +kernel
theorem d25 : decode yB 25 = .ok (.ireturn, 1) := by decide +kernel
theorem d26 : decode yB 26 = .ok (.iinc 2 1, 3) := by decide +kernel
theorem d29 : decode yB 29 = .ok (.goto (-20), 3) := by decide +kernel
theorem d32 : decode yB 32 = .ok (.iconst 1, 1) := by decide +kernel
theorem d33 : decode yB 33 = .ok (.ireturn, 1) := by decide +kernel
theorem d34 : decode yB 34 = .ok (.iconst 0, 1) := by decide +kernel
theorem d35 : decode yB 35 = .ok (.ireturn, 1) := by decide +kernel
def site : List Cond := []
def tab : Cond := tabOf yN yB 3 (some .boolean) site
def P (a : Addr) (A : Cell) (b : Addr) (B : Cell) (args : Array Value) (s : State) : Prop := args = #[.ref a, .ref b] ∧ XT.Arr .byte a A s ∧ Typed .byte A ∧ XT.Arr .byte b B s ∧ Typed .byte B
/-- whether two byte[] are equal, place for place -/
theorem law (l : Launch) (a : Addr) (A : Cell) (b : Addr) (B : Cell) : Law l yN 2 2 0 0 yB 3 (some .boolean) site (P a A b B) (Says01 (EqC A B)) [] 0 0 := by
  refine Law.of_walk (plainFor_of_name (by decide +kernel)) (by decide +kernel) (by decide +kernel) (by decide) (fun _ _ h => by rw [h.1]; rfl) (fun _ U U' hal hh h => ⟨h.1, h.2.1.mv hal hh, h.2.2.1, h.2.2.2.1.mv hal hh, h.2.2.2.2⟩) (fun r U U' V V' h1 hal h2 h => Says01.mv r U U' V V' h1 hal h2 h) ?_
  intro p e s m args below meth c s₁ X0 hexec hbytes hml hret hlk hnm hown hh0 W hP
  obtain ⟨rfl, hA, tA, hB, tB⟩ := hP
  have a31 := hA.2.2.2
  have b31 := hB.2.2.2
  have hA0 := hA.mv X0.warmed.alike hh0
  have hB0 := hB.mv X0.warmed.alike hh0
  have c1 : Steps p.tables e below (s₁.setTop (entryFrame m #[.ref a, .ref b] 3)) (s₁.setTop (mkF m 0 #[.val (.ref a), .val (.ref b), .unset] [])) := entry rfl
  have c2 : Steps p.tables e below (s₁.setTop (entryFrame m #[.ref a, .ref b] 3)) (s₁.setTop (mkF m 4 #[.val (.ref a), .val (.ref b), .unset] [.int (Int32.ofNat B.slots.size), .int (Int32.ofNat A.slots.size)])) := c1.trans (by
    refine XS.aloadN X0.here hexec rfl (hb hbytes d0) rfl rfl ?_
    refine X0.alen hexec hA0 rfl rfl (hb hbytes d1) ?_
    refine XS.aloadN X0.here hexec rfl (hb hbytes d2) rfl rfl ?_
    refine X0.alen hexec hB0 rfl rfl (hb hbytes d3) ?_
    exact Steps.refl _)
  by_cases hs : A.slots.size = B.slots.size
  · have c3 : Steps p.tables e below (s₁.setTop (entryFrame m #[.ref a, .ref b] 3)) (s₁.setTop (mkF m 9 #[.val (.ref a), .val (.ref b), .val (.int 0)] [])) := c2.trans (by
      refine XS.icmpNo X0.here hexec rfl (hb hbytes d4) rfl (ii_ne_f (by rw [hs])) ?_
      refine iconstV X0.here hexec rfl 0 (hb hbytes d7) (by decide) ?_
      refine XS.istoreN X0.here hexec rfl (hb hbytes d8) rfl rfl ?_
      exact Steps.refl _)
    have loop : ∀ (r i : Nat), i + r = A.slots.size → (∀ j, j < i → yv A j = yv B j) → Steps p.tables e below (s₁.setTop (entryFrame m #[.ref a, .ref b] 3)) (s₁.setTop (mkF m 9 #[.val (.ref a), .val (.ref b), .val (.int (Int32.ofNat i))] [])) → ∃ (pc : Nat) (Ls : Array Slot) (v : Int32), (pc = 25 ∨ pc = 33) ∧ ((v = 1 ∧ EqC A B) ∨ (v = 0 ∧ ¬ EqC A B)) ∧ Steps p.tables e below (s₁.setTop (entryFrame m #[.ref a, .ref b] 3)) (s₁.setTop (mkF m pc Ls [.int v])) := by
      intro r
      induction r with
      | zero =>
        intro i hi he cl
        exact ⟨33, _, 1, Or.inr rfl, Or.inl ⟨rfl, hs, fun j hj => he j (by omega)⟩, cl.trans (by
          refine XS.iloadN X0.here hexec rfl (hb hbytes d9) rfl ?_
          refine XS.aloadN X0.here hexec rfl (hb hbytes d10) rfl rfl ?_
          refine X0.alen hexec hA0 rfl rfl (hb hbytes d11) ?_
          refine XS.icmpYes X0.here hexec rfl (pc0 := 12) rfl (hb hbytes d12) rfl (ii_ge_t (nlt32 (by omega) (by omega))) (by decide) rfl ?_
          refine iconstV X0.here hexec rfl 1 (hb hbytes d32) (by decide) ?_
          exact Steps.refl _)⟩
      | succ r ih =>
        intro i hi he cl
        have c4 : Steps p.tables e below (s₁.setTop (entryFrame m #[.ref a, .ref b] 3)) (s₁.setTop (mkF m 21 #[.val (.ref a), .val (.ref b), .val (.int (Int32.ofNat i))] [.int (yv B i), .int (yv A i)])) := cl.trans (by
          refine XS.iloadN X0.here hexec rfl (hb hbytes d9) rfl ?_
          refine XS.aloadN X0.here hexec rfl (hb hbytes d10) rfl rfl ?_
          refine X0.alen hexec hA0 rfl rfl (hb hbytes d11) ?_
          refine XS.icmpNo X0.here hexec rfl (hb hbytes d12) rfl (ii_ge_f (lt32 (by omega) (by omega))) ?_
          refine XS.aloadN X0.here hexec rfl (hb hbytes d15) rfl rfl ?_
          refine XS.iloadN X0.here hexec rfl (hb hbytes d16) rfl ?_
          refine X0.aget hexec hA0 rfl (yv_get hA tA (i := i) (by omega)) rfl rfl (hb hbytes d17) ?_
          refine XS.aloadN X0.here hexec rfl (hb hbytes d18) rfl rfl ?_
          refine XS.iloadN X0.here hexec rfl (hb hbytes d19) rfl ?_
          refine X0.aget hexec hB0 rfl (yv_get hB tB (i := i) (by omega)) rfl rfl (hb hbytes d20) ?_
          exact Steps.refl _)
        by_cases hv : yv A i = yv B i
        · have c5 : Steps p.tables e below (s₁.setTop (entryFrame m #[.ref a, .ref b] 3)) (s₁.setTop (mkF m 9 #[.val (.ref a), .val (.ref b), .val (.int (Int32.ofNat i + 1))] [])) := c4.trans (by
            refine XS.icmpYes X0.here hexec rfl (pc0 := 21) rfl (hb hbytes d21) rfl (ii_eq_t hv) (by decide) rfl ?_
            refine iincV X0.here hexec rfl 1 (hb hbytes d26) (by decide) rfl rfl ?_
            refine XS.goto X0.here hexec rfl (pc0 := 29) rfl (hb hbytes d29) (by decide) rfl ?_
            exact Steps.refl _)
          rw [succ32] at c5
          exact ih (i + 1) (by omega) (fun j hj => by
            by_cases e : j = i
            · rw [e]; exact hv
            · exact he j (by omega)) c5
        · exact ⟨25, _, 0, Or.inl rfl, Or.inr ⟨rfl, fun q => hv (q.2 i (by omega))⟩, c4.trans (by
            refine XS.icmpNo X0.here hexec rfl (hb hbytes d21) rfl (ii_eq_f hv) ?_
            refine iconstV X0.here hexec rfl 0 (hb hbytes d24) (by decide) ?_
            exact Steps.refl _)⟩
    obtain ⟨pc, Ls, v, hpc, hv, cz⟩ := loop A.slots.size 0 (by omega) (fun j hj => absurd hj (Nat.not_lt_zero j)) c3
    have nv : narrow .boolean (.int v) = .int v := by rcases hv with ⟨rfl, -⟩ | ⟨rfl, -⟩ <;> rfl
    rcases hpc with rfl | rfl
    · exact ⟨s₁, some (.int v), _, _, _, X0, rfl, rfl, rfl, (fun h => by cases h), ⟨v, rfl, hh0, hv⟩, fun fs hl => cz.trans (X0.ireturnOut hexec hret nv (Or.inr (Or.inl rfl)) (hb hbytes d25) hl)⟩
    · exact ⟨s₁, some (.int v), _, _, _, X0, rfl, rfl, rfl, (fun h => by cases h), ⟨v, rfl, hh0, hv⟩, fun fs hl => cz.trans (X0.ireturnOut hexec hret nv (Or.inr (Or.inl rfl)) (hb hbytes d33) hl)⟩
  · have c3 : Steps p.tables e below (s₁.setTop (entryFrame m #[.ref a, .ref b] 3)) (s₁.setTop (mkF m 35 #[.val (.ref a), .val (.ref b), .unset] [.int 0])) := c2.trans (by
      refine XS.icmpYes X0.here hexec rfl (pc0 := 4) rfl (hb hbytes d4) rfl (ii_ne_t (ne32 a31 b31 hs)) (by decide) rfl ?_
      refine iconstV X0.here hexec rfl 0 (hb hbytes d34) (by decide) ?_
      exact Steps.refl _)
    exact ⟨s₁, some (.int 0), _, _, _, X0, rfl, rfl, rfl, (fun h => by cases h), ⟨0, rfl, hh0, Or.inr ⟨rfl, fun q => hs q.1⟩⟩, fun fs hl => c3.trans (X0.ireturnOut hexec hret rfl (Or.inr (Or.inl rfl)) (hb hbytes d35) hl)⟩
end LEq
theorem Cod.ty {cd : Int32} {n : Nat} {f : Nat → Int32} {V : Cell} (h : Cod cd n f V) : Typed .byte V := fun i v hv => by
  have hi : i < V.slots.size := (Array.getElem?_eq_some_iff.mp hv).1
  rcases h with ⟨-, k1, k2⟩ | ⟨-, k1, k2, -⟩
  · rw [(k2 i (by omega)).1] at hv; cases hv; exact fits_lo8 _
  · rcases Nat.mod_two_eq_zero_or_one i with e | e
    · obtain ⟨j, rfl⟩ : ∃ j, i = 2 * j := ⟨i / 2, by omega⟩
      rw [(k2 j (by omega)).1] at hv; cases hv; exact fits_lo8 _
    · obtain ⟨j, rfl⟩ : ∃ j, i = 2 * j + 1 := ⟨i / 2, by omega⟩
      rw [(k2 j (by omega)).2] at hv; cases hv; exact fits_lo8 _
/-- the same text -/
def SameT (n : Nat) (f : Nat → Int32) (k : Nat) (g : Nat → Int32) : Prop := n = k ∧ ∀ j, j < n → f j = g j
theorem lo8_inj {x y : Int32} (h0 : ¬ x < 0) (h1 : ¬ 255 < x) (k0 : ¬ y < 0) (k1 : ¬ 255 < y) (h : lo8 x = lo8 y) : x = y := by
  rw [← lo8_mask h0 h1, ← lo8_mask k0 k1, h]
/-- arrays coded by one coder are equal just where the texts are -/
theorem Cod.eqv {cd : Int32} {n k : Nat} {f g : Nat → Int32} {V V' : Cell} (h : Cod cd n f V) (h' : Cod cd k g V') (hf : ∀ j, j < n → ¬ f j < 0 ∧ ¬ 65535 < f j) (hg : ∀ j, j < k → ¬ g j < 0 ∧ ¬ 65535 < g j) : EqC V V' ↔ SameT n f k g := by
  have yvv : ∀ {W : Cell} {i : Nat} {x : Int32}, W.slots[i]? = some (.int x) → yv W i = x := fun q => by unfold yv; rw [q]
  rcases h with ⟨rfl, k1, k2⟩ | ⟨rfl, k1, k2, -⟩
  · rcases h' with ⟨-, m1, m2⟩ | ⟨e, -⟩
    · constructor
      · rintro ⟨e1, e2⟩
        refine ⟨by omega, fun j hj => ?_⟩
        have q := e2 j (by omega)
        rw [yvv (k2 j hj).1, yvv (m2 j (by omega)).1] at q
        exact lo8_inj (hf j hj).1 (k2 j hj).2 (hg j (by omega)).1 (m2 j (by omega)).2 q
      · rintro ⟨rfl, e2⟩
        refine ⟨by omega, fun j hj => ?_⟩
        rw [yvv (k2 j (by omega)).1, yvv (m2 j (by omega)).1, e2 j (by omega)]
    · exact absurd e (by decide)
  · rcases h' with ⟨e, -⟩ | ⟨-, m1, m2, -⟩
    · exact absurd e (by decide)
    · constructor
      · rintro ⟨e1, e2⟩
        refine ⟨by omega, fun j hj => ?_⟩
        have q1 := e2 (2 * j) (by omega)
        have q2 := e2 (2 * j + 1) (by omega)
        rw [yvv (k2 j hj).1, yvv (m2 j (by omega)).1] at q1
        rw [yvv (k2 j hj).2, yvv (m2 j (by omega)).2] at q2
        rw [← pair_says (hf j hj).1 (hf j hj).2, ← pair_says (hg j (by omega)).1 (hg j (by omega)).2, q1, q2]
      · rintro ⟨rfl, e2⟩
        refine ⟨by omega, fun i hi => ?_⟩
        rcases Nat.mod_two_eq_zero_or_one i with e | e
        · obtain ⟨j, rfl⟩ : ∃ j, i = 2 * j := ⟨i / 2, by omega⟩
          rw [yvv (k2 j (by omega)).1, yvv (m2 j (by omega)).1, e2 j (by omega)]
        · obtain ⟨j, rfl⟩ : ∃ j, i = 2 * j + 1 := ⟨i / 2, by omega⟩
          rw [yvv (k2 j (by omega)).2, yvv (m2 j (by omega)).2, e2 j (by omega)]
/-- two codings differ: so do the texts -/
theorem Cod.dif {cd cd' : Int32} {n k : Nat} {f g : Nat → Int32} {V V' : Cell} (h : Cod cd n f V) (h' : Cod cd' k g V') (hne : ¬ cd = cd') : ¬ SameT n f k g := by
  rintro ⟨rfl, e⟩
  rcases h with ⟨rfl, -, k2⟩ | ⟨rfl, -, -, j, hj, hw⟩
  · rcases h' with ⟨rfl, -⟩ | ⟨-, -, -, j, hj, hw⟩
    · exact hne rfl
    · exact (k2 j hj).2 (by rw [e j hj]; exact hw)
  · rcases h' with ⟨-, -, m2⟩ | ⟨rfl, -⟩
    · exact (m2 j hj).2 (by rw [← e j hj]; exact hw)
    · exact hne rfl
/-- an object of exactly C is an instance of C -/
theorem cinst {p : Program} {l : Launch} {e : Env} {R : Room} {s : State} {m : MethodId} {args : Array Value} {below : List Frame} {meth : Method} {c : Code} {T : State} {locs : List Loc} {cells slots : Nat} (X : Stand p l e R s m args below meth c T locs cells slots) (hexec : p.tables.exec = Jvm.exec) {own C : String} {index : Nat} (hown : s.vm.findClass own = some m.cls) (hlink : (Cond.classLink own index C).before args s = true) {a : Addr} (hE : Exact C a T)
    {g : JFrame} (hg : g.method = m) {rest : List Value} (hstack : g.stack = .ref a :: rest) (hdg : decode c.code g.pc = .ok (.instanceof index, 3)) :
    ∃ T', Stand p l e R s m args below meth c T' locs cells slots ∧ T'.heap = T.heap ∧ ∀ target, Steps p.tables e below (T'.setTop { g with pc := g.pc + 3, stack := .int 1 :: rest }) target → Steps p.tables e below (T.setTop g) target := by
  obtain ⟨cB, h1, D, h2, h3, h4⟩ := hE
  have h1' : s.vm.findClass C = some cB := by rw [← X.warmed.alike.findClass]; exact h1
  obtain ⟨vm', X', st⟩ := X.instanceofYes hexec hown hlink h2 h4 h1' (by rw [h3]; exact Jvm.Free.SB.assignable_self _ _) hg hstack hdg
  exact ⟨_, X', rfl, st⟩
theorem cself {p : Program} {l : Launch} {e : Env} {R : Room} {s : State} {m : MethodId} {args : Array Value} {below : List Frame} {meth : Method} {c : Code} {T : State} {locs : List Loc} {cells slots : Nat} (X : Stand p l e R s m args below meth c T locs cells slots) (hexec : p.tables.exec = Jvm.exec) {own C : String} {index : Nat} (hown : s.vm.findClass own = some m.cls) (hlink : (Cond.classLink own index C).before args s = true) {a : Addr} (hE : Exact C a T)
    {g : JFrame} (hg : g.method = m) {rest : List Value} (hstack : g.stack = .ref a :: rest) (hdg : decode c.code g.pc = .ok (.checkcast index, 3)) :
    ∃ T', Stand p l e R s m args below meth c T' locs cells slots ∧ T'.heap = T.heap ∧ ∀ target, Steps p.tables e below (T'.setTop { g with pc := g.pc + 3, stack := .ref a :: rest }) target → Steps p.tables e below (T.setTop g) target := by
  obtain ⟨cB, h1, D, h2, h3, h4⟩ := hE
  have h1' : s.vm.findClass C = some cB := by rw [← X.warmed.alike.findClass]; exact h1
  obtain ⟨vm', X', st⟩ := X.checkcastYes hexec hown hlink h2 h4 h1' (by rw [h3]; exact Jvm.Free.SB.assignable_self _ _) hg hstack hdg
  exact ⟨_, X', rfl, fun t h => st t (by rw [← hstack] at h; exact h)⟩
namespace SEq
def yN : MethodName := ⟨"java/lang/String", "equals", "(Ljava/lang/Object;)Z"⟩
abbrev yB : ByteArray := jdk_42_method_66_code
theorem d0 : decode yB 0 = .ok (.aload_n 0, 1) := by decide +kernel
theorem d1 : decode yB 1 = .ok (.aload_n 1, 1) := by decide +kernel
theorem d2 : decode yB 2 = .ok (.if_acmp (.ne) 5, 3) := by decide +kernel
theorem d5 : decode yB 5 = .ok (.iconst 1, 1) := by decide +kernel
theorem d6 : decode yB 6 = .ok (.ireturn, 1) := by decide +kernel
theorem d7 : decode yB 7 = .ok (.aload_n 1, 1) := by decide +kernel
theorem d8 : decode yB 8 = .ok (.instanceof 10, 3) := by decide +kernel
theorem d11 : decode yB 11 = .ok (.ifCond (.eq) 43, 3) := by decide +kernel
theorem d14 : decode yB 14 = .ok (.aload_n 1, 1) := by decide +kernel
theorem d15 : decode yB 15 = .ok (.checkcast 10, 3) := by decide +kernel
theorem d18 : decode yB 18 = .ok (.astore_n 2, 1) := by decide +kernel
theorem d19 : decode yB 19 = .ok (.getstatic 38, 3) := by decide +kernel
theorem d22 : decode yB 22 = .ok (.ifCond (.eq) 14, 3) := by decide +kernel
theorem d25 : decode yB 25 = .ok (.aload_n 0, 1) := by decide +kernel
theorem d26 : decode yB 26 = .ok (.getfield 15, 3) := by decide +kernel
theorem d29 : decode yB 29 = .ok (.aload_n 2, 1) := by decide +kernel
theorem d30 : decode yB 30 = .ok (.getfield 15, 3) := by decide +kernel
theorem d33 : decode yB 33 = .ok (.if_icmp (.ne) 21, 3) := by decide +kernel
theorem d36 : decode yB 36 = .ok (.aload_n 0, 1) := by decide +kernel
theorem d37 : decode yB 37 = .ok (.getfield 9, 3) := by decide +kernel
theorem d40 : decode yB 40 = .ok (.aload_n 2, 1) := by decide +kernel
theorem d41 : decode yB 41 = .ok (.getfield 9, 3) := by decide +kernel
theorem d44 : decode yB 44 = .ok (.invokestatic 541, 3) := by decide +kernel
theorem d47 : decode yB 47 = .ok (.ifCond (.eq) 7, 3) := by decide +kernel
theorem d50 : decode yB 50 = .ok (.iconst 1, 1) := by decide +kernel
theorem d51 : decode yB 51 = .ok (.goto 4, 3) := by decide +kernel
theorem d54 : decode yB 54 = .ok (.iconst 0, 1) := by decide +kernel
theorem d55 : decode yB 55 = .ok (.ireturn, 1) := by decide +kernel
def site : List Cond := [.classLink "java/lang/String" 10 "java/lang/String", .fieldLink "java/lang/String" 38 "java/lang/String" "COMPACT_STRINGS" "Z", .fieldLink "java/lang/String" 15 "java/lang/String" "coder" "B", .fieldLink "java/lang/String" 9 "java/lang/String" "value" "[B", LEq.tab] ++ staticW "java/lang/String" 541 LEq.yN
def tab : Cond := tabOf yN yB 3 (some .boolean) site
def P (x t : Addr) (V : Cell) (cd : Int32) (n : Nat) (f : Nat → Int32) (y t' : Addr) (V' : Cell) (cd' : Int32) (k : Nat) (g : Nat → Int32) (z : Int32) (args : Array Value) (s : State) : Prop := args = #[.ref x, .ref y] ∧ Txt x t V cd n f s ∧ Txt y t' V' cd' k g s ∧ StaticIs s "java/lang/String" "COMPACT_STRINGS" "Z" (.int z) ∧ ¬ z = 0
/-- equals(Object) of two Strings: whether the texts are the same -/
theorem law (l : Launch) (x t : Addr) (V : Cell) (cd : Int32) (n : Nat) (f : Nat → Int32) (y t' : Addr) (V' : Cell) (cd' : Int32) (k : Nat) (g : Nat → Int32) (z : Int32) : Law l yN 2 1 1 14 yB 3 (some .boolean) site (P x t V cd n f y t' V' cd' k g z) (Says01 (SameT n f k g)) [] 0 0 := by
  refine Law.of_walk (plainFor_of_name (by decide +kernel)) (by decide +kernel) (by decide +kernel) (by decide) (fun _ _ h => by rw [h.1]; rfl) (fun _ U U' hal hh h => ⟨h.1, h.2.1.mv hal hh, h.2.2.1.mv hal hh, h.2.2.2.1.there hal hh, h.2.2.2.2⟩) (fun r U U' V V' h1 hal h2 h => Says01.mv r U U' V V' h1 hal h2 h) ?_
  intro p e s m args below meth c s₁ X0 hexec hbytes hml hret hlk hnm hown hh0 W hP
  obtain ⟨rfl, hx, hy, s1, hz⟩ := hP
  have c1 : Steps p.tables e below (s₁.setTop (entryFrame m #[.ref x, .ref y] 3)) (s₁.setTop (mkF m 2 #[.val (.ref x), .val (.ref y), .unset] [.ref y, .ref x])) := Steps.trans (entry rfl) (by
    show Steps p.tables e below (s₁.setTop (mkF m 0 #[.val (.ref x), .val (.ref y), .unset] [])) _
    refine XS.aloadN X0.here hexec rfl (hb hbytes d0) rfl rfl ?_
    refine XS.aloadN X0.here hexec rfl (hb hbytes d1) rfl rfl ?_
    exact Steps.refl _)
  by_cases hxy : x = y
  · have c2 : Steps p.tables e below (s₁.setTop (entryFrame m #[.ref x, .ref y] 3)) (s₁.setTop (mkF m 6 #[.val (.ref x), .val (.ref y), .unset] [.int 1])) := c1.trans (by
      refine acmpNo X0.here hexec rfl (hb hbytes d2) rfl rfl rfl (by simp [acmp, hxy]) ?_
      refine iconstV X0.here hexec rfl 1 (hb hbytes d5) (by decide) ?_
      exact Steps.refl _)
    subst hxy
    have ec : cd = cd' := by
      obtain ⟨D, fd, a1, a2, a3⟩ := hx.2.2.1
      obtain ⟨D', fd', b1, b2, b3⟩ := hy.2.2.1
      cases a1.symm.trans b1
      obtain ⟨q1, q2, q3, q4⟩ := a2.1
      obtain ⟨r1, r2, r3, r4⟩ := b2.1
      cases q4.symm.trans r4
      cases a3.symm.trans b3; rfl
    have et : t = t' := by
      obtain ⟨D, fd, a1, a2, a3⟩ := hx.2.1
      obtain ⟨D', fd', b1, b2, b3⟩ := hy.2.1
      cases a1.symm.trans b1
      obtain ⟨q1, q2, q3, q4⟩ := a2.1
      obtain ⟨r1, r2, r3, r4⟩ := b2.1
      cases q4.symm.trans r4
      cases a3.symm.trans b3; rfl
    subst ec et
    have ev : V = V' := by cases hx.2.2.2.1.1.symm.trans hy.2.2.2.1.1; rfl
    subst ev
    have hs : SameT n f k g := (Cod.eqv hx.2.2.2.2.1 hy.2.2.2.2.1 hx.2.2.2.2.2 hy.2.2.2.2.2).mp ⟨rfl, fun _ _ => rfl⟩
    exact ⟨s₁, some (.int 1), _, _, _, X0, rfl, rfl, rfl, (fun h => by cases h), ⟨1, rfl, hh0, Or.inl ⟨rfl, hs⟩⟩, fun fs hl => c2.trans (X0.ireturnOut hexec hret rfl (Or.inr (Or.inl rfl)) (hb hbytes d6) hl)⟩
  · have c2 : Steps p.tables e below (s₁.setTop (entryFrame m #[.ref x, .ref y] 3)) (s₁.setTop (mkF m 8 #[.val (.ref x), .val (.ref y), .unset] [.ref y])) := c1.trans (by
      refine acmpYes X0.here hexec rfl (pc0 := 2) rfl (hb hbytes d2) rfl rfl rfl (by simp [acmp, hxy]) (by decide) rfl ?_
      refine XS.aloadN X0.here hexec rfl (hb hbytes d7) rfl rfl ?_
      exact Steps.refl _)
    obtain ⟨T3, X3, q3, st3⟩ := cinst X0 hexec hown (wk W (.classLink "java/lang/String" 10 "java/lang/String")) (hy.mv X0.warmed.alike hh0).1 (g := (mkF m 8 #[.val (.ref x), .val (.ref y), .unset] [.ref y])) rfl (rest := []) rfl (hb hbytes d8)
    have hh3 := q3.trans hh0
    have c4 : Steps p.tables e below (s₁.setTop (entryFrame m #[.ref x, .ref y] 3)) (T3.setTop (mkF m 15 #[.val (.ref x), .val (.ref y), .unset] [.ref y])) := (c2.trans (st3 _ (Steps.refl _))).trans (by
      refine XS.ifNo X3.here hexec rfl (hb hbytes d11) rfl (i0_eq_f (by decide)) ?_
      refine XS.aloadN X3.here hexec rfl (hb hbytes d14) rfl rfl ?_
      exact Steps.refl _)
    obtain ⟨T5, X5, q5, st5⟩ := cself X3 hexec hown (wk W (.classLink "java/lang/String" 10 "java/lang/String")) (hy.mv X3.warmed.alike hh3).1 (g := (mkF m 15 #[.val (.ref x), .val (.ref y), .unset] [.ref y])) rfl (rest := []) rfl (hb hbytes d15)
    have hh5 := q5.trans hh3
    have c6 : Steps p.tables e below (s₁.setTop (entryFrame m #[.ref x, .ref y] 3)) (T5.setTop (mkF m 19 #[.val (.ref x), .val (.ref y), .val (.ref y)] [])) := (c4.trans (st5 _ (Steps.refl _))).trans (by
      refine XS.astoreN X5.here hexec rfl (hb hbytes d18) rfl rfl rfl ?_
      exact Steps.refl _)
    obtain ⟨T7, X7, q7, st7⟩ := X5.sget hexec hown (wk W (.fieldLink "java/lang/String" 38 "java/lang/String" "COMPACT_STRINGS" "Z")) s1 (fun _ _ h => by rw [hh5]; exact h) (g := (mkF m 19 #[.val (.ref x), .val (.ref y), .val (.ref y)] [])) rfl (hb hbytes d19)
    have hh7 := q7.trans hh5
    have c8 : Steps p.tables e below (s₁.setTop (entryFrame m #[.ref x, .ref y] 3)) (T7.setTop (mkF m 26 #[.val (.ref x), .val (.ref y), .val (.ref y)] [.ref x])) := (c6.trans (st7 _ (Steps.refl _))).trans (by
      refine XS.ifNo X7.here hexec rfl (hb hbytes d22) rfl (i0_eq_f hz) ?_
      refine XS.aloadN X7.here hexec rfl (hb hbytes d25) rfl rfl ?_
      exact Steps.refl _)
    obtain ⟨T9, X9, q9, st9⟩ := X7.hget hexec hown (wk W (.fieldLink "java/lang/String" 15 "java/lang/String" "coder" "B")) (hx.mv X7.warmed.alike hh7).2.2.1 (g := (mkF m 26 #[.val (.ref x), .val (.ref y), .val (.ref y)] [.ref x])) rfl (rest := []) rfl (hb hbytes d26)
    have hh9 := q9.trans hh7
    have c10 : Steps p.tables e below (s₁.setTop (entryFrame m #[.ref x, .ref y] 3)) (T9.setTop (mkF m 30 #[.val (.ref x), .val (.ref y), .val (.ref y)] [.ref y, .int cd])) := (c8.trans (st9 _ (Steps.refl _))).trans (by
      refine XS.aloadN X9.here hexec rfl (hb hbytes d29) rfl rfl ?_
      exact Steps.refl _)
    obtain ⟨T11, X11, q11, st11⟩ := X9.hget hexec hown (wk W (.fieldLink "java/lang/String" 15 "java/lang/String" "coder" "B")) (hy.mv X9.warmed.alike hh9).2.2.1 (g := (mkF m 30 #[.val (.ref x), .val (.ref y), .val (.ref y)] [.ref y, .int cd])) rfl (rest := [.int cd]) rfl (hb hbytes d30)
    have hh11 := q11.trans hh9
    have c12 : Steps p.tables e below (s₁.setTop (entryFrame m #[.ref x, .ref y] 3)) (T11.setTop (mkF m 33 #[.val (.ref x), .val (.ref y), .val (.ref y)] [.int cd', .int cd])) := c10.trans (st11 _ (Steps.refl _))
    by_cases hcd : cd = cd'
    · subst hcd
      have c13 : Steps p.tables e below (s₁.setTop (entryFrame m #[.ref x, .ref y] 3)) (T11.setTop (mkF m 37 #[.val (.ref x), .val (.ref y), .val (.ref y)] [.ref x])) := c12.trans (by
        refine XS.icmpNo X11.here hexec rfl (hb hbytes d33) rfl (ii_ne_f rfl) ?_
        refine XS.aloadN X11.here hexec rfl (hb hbytes d36) rfl rfl ?_
        exact Steps.refl _)
      obtain ⟨T14, X14, q14, st14⟩ := X11.hget hexec hown (wk W (.fieldLink "java/lang/String" 9 "java/lang/String" "value" "[B")) (hx.mv X11.warmed.alike hh11).2.1 (g := (mkF m 37 #[.val (.ref x), .val (.ref y), .val (.ref y)] [.ref x])) rfl (rest := []) rfl (hb hbytes d37)
      have hh14 := q14.trans hh11
      have c15 : Steps p.tables e below (s₁.setTop (entryFrame m #[.ref x, .ref y] 3)) (T14.setTop (mkF m 41 #[.val (.ref x), .val (.ref y), .val (.ref y)] [.ref y, .ref t])) := (c13.trans (st14 _ (Steps.refl _))).trans (by
        refine XS.aloadN X14.here hexec rfl (hb hbytes d40) rfl rfl ?_
        exact Steps.refl _)
      obtain ⟨T16, X16, q16, st16⟩ := X14.hget hexec hown (wk W (.fieldLink "java/lang/String" 9 "java/lang/String" "value" "[B")) (hy.mv X14.warmed.alike hh14).2.1 (g := (mkF m 41 #[.val (.ref x), .val (.ref y), .val (.ref y)] [.ref y, .ref t])) rfl (rest := [.ref t]) rfl (hb hbytes d41)
      have hh16 := q16.trans hh14
      have c17 : Steps p.tables e below (s₁.setTop (entryFrame m #[.ref x, .ref y] 3)) (T16.setTop (mkF m 44 #[.val (.ref x), .val (.ref y), .val (.ref y)] [.ref t', .ref t])) := c15.trans (st16 _ (Steps.refl _))
      obtain ⟨v18, T18, X18, E18, g18⟩ := X16.callS hexec (LEq.law l t V t' V') hown (wks W (staticW "java/lang/String" 541 LEq.yN)) (wk W LEq.tab) (W := 0) (Nat.le_of_ble_eq_true rfl) (Nat.le_of_ble_eq_true rfl) (Nat.le_refl _) (Nat.le_refl _) (g := (mkF m 44 #[.val (.ref x), .val (.ref y), .val (.ref y)] [.ref t', .ref t])) rfl (by rw [hml]; rfl) c17 (argsL := [.ref t, .ref t']) (rest := []) rfl rfl (by show 2 * 0 + 0 ≤ _; decide) (hb hbytes d44) (⟨rfl, hx.2.2.2.1.mv X16.warmed.alike hh16, hx.2.2.2.2.1.ty, hy.2.2.2.1.mv X16.warmed.alike hh16, hy.2.2.2.2.1.ty⟩)
      obtain ⟨v, rfl, q18, hv⟩ := E18
      have iff := Cod.eqv hx.2.2.2.2.1 hy.2.2.2.2.1 hx.2.2.2.2.2 hy.2.2.2.2.2
      rcases hv with ⟨rfl, he⟩ | ⟨rfl, he⟩
      · have c19 : Steps p.tables e below (s₁.setTop (entryFrame m #[.ref x, .ref y] 3)) (T18.setTop (mkF m 55 #[.val (.ref x), .val (.ref y), .val (.ref y)] [.int 1])) := Steps.trans g18 (by
          refine XS.ifNo X18.here hexec rfl (hb hbytes d47) rfl (i0_eq_f (by decide)) ?_
          refine iconstV X18.here hexec rfl 1 (hb hbytes d50) (by decide) ?_
          refine XS.goto X18.here hexec rfl (pc0 := 51) rfl (hb hbytes d51) (by decide) rfl ?_
          exact Steps.refl _)
        exact ⟨T18, some (.int 1), _, _, _, X18, rfl, rfl, rfl, (fun h => by cases h), ⟨1, rfl, q18.trans hh16, Or.inl ⟨rfl, iff.mp he⟩⟩, fun fs hl => c19.trans (X18.ireturnOut hexec hret rfl (Or.inr (Or.inl rfl)) (hb hbytes d55) hl)⟩
      · have c19 : Steps p.tables e below (s₁.setTop (entryFrame m #[.ref x, .ref y] 3)) (T18.setTop (mkF m 55 #[.val (.ref x), .val (.ref y), .val (.ref y)] [.int 0])) := Steps.trans g18 (by
          refine XS.ifYes X18.here hexec rfl (pc0 := 47) rfl (hb hbytes d47) rfl (i0_eq_t rfl) (by decide) rfl ?_
          refine iconstV X18.here hexec rfl 0 (hb hbytes d54) (by decide) ?_
          exact Steps.refl _)
        exact ⟨T18, some (.int 0), _, _, _, X18, rfl, rfl, rfl, (fun h => by cases h), ⟨0, rfl, q18.trans hh16, Or.inr ⟨rfl, fun q => he (iff.mpr q)⟩⟩, fun fs hl => c19.trans (X18.ireturnOut hexec hret rfl (Or.inr (Or.inl rfl)) (hb hbytes d55) hl)⟩
    · have c13 : Steps p.tables e below (s₁.setTop (entryFrame m #[.ref x, .ref y] 3)) (T11.setTop (mkF m 55 #[.val (.ref x), .val (.ref y), .val (.ref y)] [.int 0])) := c12.trans (by
        refine XS.icmpYes X11.here hexec rfl (pc0 := 33) rfl (hb hbytes d33) rfl (ii_ne_t hcd) (by decide) rfl ?_
        refine iconstV X11.here hexec rfl 0 (hb hbytes d54) (by decide) ?_
        exact Steps.refl _)
      exact ⟨T11, some (.int 0), _, _, _, X11, rfl, rfl, rfl, (fun h => by cases h), ⟨0, rfl, hh11, Or.inr ⟨rfl, Cod.dif hx.2.2.2.2.1 hy.2.2.2.2.1 hcd⟩⟩, fun fs hl => c13.trans (X11.ireturnOut hexec hret rfl (Or.inr (Or.inl rfl)) (hb hbytes d55) hl)⟩
theorem pays {l : Launch} {R : Room} {p : Program} {e : Env} {below : List Frame} {s : State} {sargs : Array Value} {len W : Nat} (x t : Addr) (V : Cell) (cd : Int32) (n : Nat) (f : Nat → Int32) (y t' : Addr) (V' : Cell) (cd' : Int32) (k : Nat) (g : Nat → Int32) (z : Int32) (htab : tab.before sargs s = true) (hfr : 2 ≤ R.frames) (hlo : W + 28 ≤ R.locals) :
    Back l R p e below s sargs yN len W (fun A₁ a₁ => A₁.cells + 0 ≤ R.cells ∧ A₁.slots + 0 ≤ R.slots ∧ P x t V cd n f y t' V' cd' k g z a₁ A₁.U) (fun A₁ _ v₁ B₁ => Says01 (SameT n f k g) v₁ A₁.U B₁.U ∧ B₁.locs = A₁.locs ++ [] ∧ B₁.cells = A₁.cells + 0 ∧ B₁.slots = A₁.slots + 0) :=
  (law l x t V cd n f y t' V' cd' k g z).pays htab hfr (by omega)
end SEq
end StrChars
namespace StrChars.Road
open Jvm Sem ClassFile Op Lib Jvm.Stand Jvm.Free Jvm.Free.XT
open Jvm.Lib.Cold (StaticIs)
/-- the words of String.equals(Object) -/
abbrev wordsEq : List Jvm.Cond := [.code SEq.yN SEq.yB 3 (some .boolean), .initialized ST, .classLink ST 10 ST, .fieldLink ST 38 ST "COMPACT_STRINGS" "Z", .fieldLink ST 15 ST "coder" "B", .fieldLink ST 9 ST "value" "[B", .methodLink ST 541 LEq.yN, .static LEq.yN, .code LEq.yN LEq.yB 3 (some .boolean), .initialized "java/lang/StringLatin1"]
theorem tabEq_of {a : Array Value} {s : State} (h : ∀ w ∈ wordsEq, w.before a s = true) : SEq.tab.before a s = true := by
  have hl : LEq.tab.before a s = true := unparts (wk h (.code LEq.yN LEq.yB 3 (some .boolean))) (wks h (.initialized LEq.yN.cls :: LEq.site))
  have q := consq hl h
  exact unparts (wk q (.code SEq.yN SEq.yB 3 (some .boolean))) (wks q (.initialized SEq.yN.cls :: SEq.site))
theorem movedEq {Z s : State} {a0 args : Array Value} (hZ : Z.Warmed39 s.vm) (hw : ∀ d ∈ wordsEq, d.before a0 Z = true) : ∀ d ∈ wordsEq, d.before args s = true := fun d hd => by
  have t : ∀ d ∈ wordsEq, (d.onTables && d.keepsFace) = true := by decide +kernel
  exact RoadKit.mv hZ (hw d hd) (t d hd)
/-- the road's facts of a String, as the laws ask it -/
theorem txt_of {Z U : State} {a0 : Array Value} {kI : Nat} (wi : (Jvm.Cond.instantiable ST kI).before a0 Z = true) (al : Z.vm.Alike U.vm) {x t : Addr} {kb : ClassId} {cs : List Int32} {cd N2 : Int32} {vs : List Value} (E : RoadKit.Exa Z U.heap x ST) (V : RoadKit.Fld Z U.heap x ST "value" "[B" (.ref t)) (C : RoadKit.Fld Z U.heap x ST "coder" "B" (.int cd)) (K : RoadKit.Arv Z U.heap t kb .byte N2 vs (.int 0)) (hc : CodA cs cd N2 vs) (hb : ∀ c ∈ cs, ¬ c < 0 ∧ ¬ (65535 : Int32) < c) (l2 : cs.length ≤ 4000) :
    ∃ A, Txt x t A cd cs.length (fun j => cs.getD j 0) U := by
  obtain ⟨A, K1, K2, K3, K4, K5, K6⟩ := K
  have hcod := hc.cod (by omega) K3 K5
  obtain ⟨D, fV, fC, hB, F1, F2, g1, g2, -, -⟩ := strObj wi al E V C
  exact ⟨A, ⟨_, hB.2.2.1, D, hB.1, rfl, by cases q : D.vm <;> first | rfl | exact absurd q (hB.2.1.2 _)⟩, Has.of hB F1 g1, Has.of hB F2 g2, ⟨K1.1, State.isArrayOf_alike al K1.2.1, K1.2.2, by rcases hcod with ⟨-, q, -⟩ | ⟨-, q, -⟩ <;> omega⟩, hcod, fun j hj => by
    have e : cs.getD j 0 = cs[j] := by simp [List.getD_eq_getElem?_getD, hj]
    show ¬ cs.getD j 0 < 0 ∧ ¬ 65535 < cs.getD j 0
    rw [e]; exact hb _ (List.getElem_mem _)⟩
theorem same_list (cs ds : List Int32) : SameT cs.length (fun j => cs.getD j 0) ds.length (fun j => ds.getD j 0) ↔ cs = ds := by
  constructor
  · rintro ⟨e, q⟩
    refine List.ext_getElem e fun j h1 h2 => ?_
    have := q j h1
    simpa [List.getD_eq_getElem?_getD, h1, h2] using this
  · rintro rfl
    exact ⟨rfl, fun _ _ => rfl⟩
/-- **equals(Object) OF TWO SUCH STRINGS**: 1 just where the chars are the same -/
theorem eqW {p : Program} {l : Launch} {e : Env} {R : Room} {s : State} {args : Array Value} {below : List Frame} {len W : Nat} {Z : State} {a0 : Array Value} {h : Heap} (hZ : Z.Warmed39 s.vm) (hw : ∀ d ∈ wordsEq, d.before a0 Z = true) {kI : Nat} (wi : (Jvm.Cond.instantiable ST kI).before a0 Z = true)
    {x t : Addr} {kb : ClassId} {cs : List Int32} {cd N2 : Int32} {vs : List Value} (E : RoadKit.Exa Z h x ST) (V : RoadKit.Fld Z h x ST "value" "[B" (.ref t)) (C : RoadKit.Fld Z h x ST "coder" "B" (.int cd)) (K : RoadKit.Arv Z h t kb .byte N2 vs (.int 0)) (hc : CodA cs cd N2 vs) (hb : ∀ c ∈ cs, ¬ c < 0 ∧ ¬ (65535 : Int32) < c) (l2 : cs.length ≤ 4000)
    {y t' : Addr} {kb' : ClassId} {ds : List Int32} {cd' N2' : Int32} {vs' : List Value} (E' : RoadKit.Exa Z h y ST) (V' : RoadKit.Fld Z h y ST "value" "[B" (.ref t')) (C' : RoadKit.Fld Z h y ST "coder" "B" (.int cd')) (K' : RoadKit.Arv Z h t' kb' .byte N2' vs' (.int 0)) (hc' : CodA ds cd' N2' vs') (hb' : ∀ c ∈ ds, ¬ c < 0 ∧ ¬ (65535 : Int32) < c) (l2' : ds.length ≤ 4000)
    {z : Int32} (S : RoadKit.Sta Z h ST "COMPACT_STRINGS" "Z" (.int z)) (hz : ¬ z = 0) (hfr : 2 ≤ R.frames) (hlo : W + 28 ≤ R.locals) :
    Back l R p e below s args (⟨"java/lang/String", "equals", "(Ljava/lang/Object;)Z"⟩ : MethodName) len W (fun P a => a = #[.ref x, .ref y] ∧ P.U.heap = h ∧ P.cells + 0 ≤ R.cells ∧ P.slots + 0 ≤ R.slots)
      (fun P _ v B => ∃ L, (((v = some (.int 1) ∧ cs = ds) ∨ (v = some (.int 0) ∧ ¬ cs = ds)) ∧ L = [] ∧ B.U.heap = h) ∧ B.locs = P.locs ++ L ∧ B.cells = P.cells + 0 ∧ B.slots = P.slots + 0) := by
  intro m meth c P g ig mk a X hg hsize hdg hW hn hp'
  obtain ⟨rfl, rfl, r1, r2⟩ := hp'
  have al : Z.vm.Alike P.U.vm := hZ.alike.trans X.warmed.alike
  obtain ⟨A, hx⟩ := txt_of wi al E V C K hc hb l2
  obtain ⟨A', hy⟩ := txt_of wi al E' V' C' K' hc' hb' l2'
  obtain ⟨v, B, X', ⟨⟨w, hv, hh, hq⟩, hl, hk, hs⟩, st⟩ := SEq.pays x t A cd cs.length (fun j => cs.getD j 0) y t' A' cd' ds.length (fun j => ds.getD j 0) z (tabEq_of (movedEq hZ hw)) hfr hlo m meth c P g ig mk _ X hg hsize hdg hW hn ⟨r1, r2, rfl, hx, hy, sta_is al S, hz⟩
  refine ⟨v, B, X', ⟨[], ⟨?_, rfl, hh⟩, hl, hk, hs⟩, st⟩
  rcases hq with ⟨rfl, q⟩ | ⟨rfl, q⟩
  · exact Or.inl ⟨hv, (same_list cs ds).mp q⟩
  · exact Or.inr ⟨hv, fun e => q ((same_list cs ds).mpr e)⟩
end StrChars.Road
namespace StrChars
open Jvm Sem ClassFile Op Lib Jvm.Stand Jvm.Free.XT Jvm.Free.ALB Jvm.Free.JM Jvm.Free
open Jvm.Lib.Cold (StaticIs)
namespace ChN
def yN : MethodName := ⟨"java/lang/String", "charAt", "(I)C"⟩
abbrev yB : ByteArray := jdk_42_method_56_code
theorem d0 : decode yB 0 = .ok (.aload_n 0, 1) := by decide +kernel
theorem d1 : decode yB 1 = .ok (.invokevirtual 492, 3) := by decide +kernel
theorem d4 : decode yB 4 = .ok (.ifCond (.eq) 12, 3) := by decide +kernel
theorem d7 : decode yB 7 = .ok (.aload_n 0, 1) := by decide +kernel
theorem d8 : decode yB 8 = .ok (.getfield 9, 3) := by decide +kernel
theorem d11 : decode yB 11 = .ok (.iload_n 1, 1) := by decide +kernel
theorem d12 : decode yB 12 = .ok (.invokestatic 495, 3) := by decide +kernel
theorem d15 : decode yB 15 = .ok (.ireturn, 1) := by decide +kernel
def site : List Cond := [.fieldLink "java/lang/String" 9 "java/lang/String" "value" "[B", IsL.tab, LChA.tab] ++ virtW "java/lang/String" 492 "java/lang/String" IsL.yN IsL.yN ++ staticW "java/lang/String" 495 LChA.yN
def tab : Cond := tabOf yN yB 2 (some .char) site
def P (x t : Addr) (V : Cell) (n : Nat) (f : Nat → Int32) (z : Int32) (fm : Value) (i : Nat) (args : Array Value) (s : State) : Prop := args = #[.ref x, .int (Int32.ofNat i)] ∧ Txt x t V 0 n f s ∧ i < n ∧ StaticIs s "java/lang/String" "COMPACT_STRINGS" "Z" (.int z) ∧ ¬ z = 0 ∧ StaticIs s "jdk/internal/util/Preconditions" "SIOOBE_FORMATTER" "Ljava/util/function/BiFunction;" fm ∧ fm.isRef = true
def E (f : Nat → Int32) (i : Nat) (r : Option Value) (s u : State) : Prop := XT.PureE (some (.int (f i))) r s u
/-- charAt(i) of a Latin-1 String of n chars, i < n: f i -/
theorem law (l : Launch) (x t : Addr) (V : Cell) (n : Nat) (f : Nat → Int32) (z : Int32) (fm : Value) (i : Nat) : Law l yN 2 1 3 40 yB 2 (some .char) site (P x t V n f z fm i) (E f i) [] 0 0 := by
  refine Law.of_walk (plainFor_of_name (by decide +kernel)) (by decide +kernel) (by decide +kernel) (by decide) (fun _ _ h => by rw [h.1]; rfl) (fun _ U U' hal hh h => ⟨h.1, h.2.1.mv hal hh, h.2.2.1, h.2.2.2.1.there hal hh, h.2.2.2.2.1, h.2.2.2.2.2.1.there hal hh, h.2.2.2.2.2.2⟩) (fun r U U' V V' h1 hal h2 h => XT.PureE.mv r U U' V V' h1 hal h2 h) ?_
  intro p e s m args below meth c s₁ X0 hexec hbytes hml hret hlk hnm hown hh0 W hP
  obtain ⟨rfl, hx, hi, s1, hz, s3, rf⟩ := hP
  have v31 := hx.2.2.2.1.2.2.2
  have hr := hx.2.2.2.2.2 i hi
  have hx0 := hx.mv X0.warmed.alike hh0
  have c1 : Steps p.tables e below (s₁.setTop (entryFrame m #[.ref x, .int (Int32.ofNat i)] 2)) (s₁.setTop (mkF m 1 #[.val (.ref x), .val (.int (Int32.ofNat i))] [.ref x])) := Steps.trans (entry rfl) (by
    show Steps p.tables e below (s₁.setTop (mkF m 0 #[.val (.ref x), .val (.int (Int32.ofNat i))] [])) _
    refine XS.aloadN X0.here hexec rfl (hb hbytes d0) rfl rfl ?_
    exact Steps.refl _)
  obtain ⟨v2, T2, X2, E2, g2⟩ := X0.callV hexec (IsL.law l x 0 z) hown (wks W (virtW "java/lang/String" 492 "java/lang/String" IsL.yN IsL.yN)) rfl (by decide) (wk W IsL.tab) (W := 0) (Nat.le_of_ble_eq_true rfl) (Nat.le_of_ble_eq_true rfl) (Nat.le_refl _) (Nat.le_refl _) (hx0.1.fc X0.warmed.alike) hx0.1.is (g := (mkF m 1 #[.val (.ref x), .val (.int (Int32.ofNat i))] [.ref x])) rfl (by rw [hml]; rfl) c1 (argsL := []) (rest := []) rfl rfl (by show 2 * 0 + 0 ≤ _; decide) (hb hbytes d1) (⟨rfl, hx0.2.2.1, hx.2.2.2.2.1.cd, s1.there X0.warmed.alike hh0, hz⟩)
  obtain ⟨rfl, q2⟩ := E2
  have hh2 := q2.trans hh0
  have hx2 := hx.mv X2.warmed.alike hh2
  obtain ⟨-, k1, k2⟩ | ⟨k0, -⟩ := hx.2.2.2.2.1
  · have c3 : Steps p.tables e below (s₁.setTop (entryFrame m #[.ref x, .int (Int32.ofNat i)] 2)) (T2.setTop (mkF m 8 #[.val (.ref x), .val (.int (Int32.ofNat i))] [.ref x])) := Steps.trans g2 (by
      refine XS.ifNo X2.here hexec rfl (hb hbytes d4) rfl (i0_eq_f (by decide)) ?_
      refine XS.aloadN X2.here hexec rfl (hb hbytes d7) rfl rfl ?_
      exact Steps.refl _)
    obtain ⟨T4, X4, q4, st4⟩ := X2.hget hexec hown (wk W (.fieldLink "java/lang/String" 9 "java/lang/String" "value" "[B")) hx2.2.1 (g := (mkF m 8 #[.val (.ref x), .val (.int (Int32.ofNat i))] [.ref x])) rfl (rest := []) rfl (hb hbytes d8)
    have hh4 := q4.trans hh2
    have c5 : Steps p.tables e below (s₁.setTop (entryFrame m #[.ref x, .int (Int32.ofNat i)] 2)) (T4.setTop (mkF m 12 #[.val (.ref x), .val (.int (Int32.ofNat i))] [.int (Int32.ofNat i), .ref t])) := (c3.trans (st4 _ (Steps.refl _))).trans (by
      refine XS.iloadN X4.here hexec rfl (hb hbytes d11) rfl ?_
      exact Steps.refl _)
    obtain ⟨v6, T6, X6, E6, g6⟩ := X4.callS hexec (LChA.law l t V i (lo8 (f i)) fm) hown (wks W (staticW "java/lang/String" 495 LChA.yN)) (wk W LChA.tab) (W := 0) (Nat.le_of_ble_eq_true rfl) (Nat.le_of_ble_eq_true rfl) (Nat.le_refl _) (Nat.le_refl _) (g := (mkF m 12 #[.val (.ref x), .val (.int (Int32.ofNat i))] [.int (Int32.ofNat i), .ref t])) rfl (by rw [hml]; rfl) c5 (argsL := [.ref t, .int (Int32.ofNat i)]) (rest := []) rfl rfl (by show 2 * 0 + 0 ≤ _; decide) (hb hbytes d12) (⟨rfl, hx.2.2.2.1.mv X4.warmed.alike hh4, (k2 i hi).1, s3.there X4.warmed.alike hh4, rf⟩)
    obtain ⟨rfl, q6⟩ := E6
    rw [chr8_lo8 hr.1 (k2 i hi).2] at g6
    exact ⟨T6, some (.int (f i)), _, _, _, X6, rfl, rfl, rfl, (fun h => by cases h), ⟨rfl, q6.trans hh4⟩, fun fs hl => Steps.trans g6 (X6.ireturnOut hexec hret (narrow_ch hr.1 hr.2) (Or.inr (Or.inr (Or.inr (Or.inl rfl)))) (hb hbytes d15) hl)⟩
  · exact absurd k0 (by decide)
theorem pays {l : Launch} {R : Room} {p : Program} {e : Env} {below : List Frame} {s : State} {sargs : Array Value} {len W : Nat} (x t : Addr) (V : Cell) (n : Nat) (f : Nat → Int32) (z : Int32) (fm : Value) (i : Nat) (htab : tab.before sargs s = true) (hfr : 4 ≤ R.frames) (hlo : W + 53 ≤ R.locals) :
    Back l R p e below s sargs yN len W (fun A₁ a₁ => A₁.cells + 0 ≤ R.cells ∧ A₁.slots + 0 ≤ R.slots ∧ P x t V n f z fm i a₁ A₁.U) (fun A₁ _ v₁ B₁ => E f i v₁ A₁.U B₁.U ∧ B₁.locs = A₁.locs ++ [] ∧ B₁.cells = A₁.cells + 0 ∧ B₁.slots = A₁.slots + 0) :=
  (law l x t V n f z fm i).pays htab hfr (by omega)
end ChN
end StrChars
namespace StrChars.Road
open Jvm Sem ClassFile Op Lib Jvm.Stand Jvm.Free Jvm.Free.XT
open Jvm.Lib.Cold (StaticIs)
/-- the words of String.charAt(int), the Latin-1 road alone -/
abbrev wordsChN : List Jvm.Cond := [.code ChN.yN ChN.yB 2 (some .char), .initialized ST, .fieldLink ST 9 ST "value" "[B", .fieldLink ST 38 ST "COMPACT_STRINGS" "Z", .fieldLink ST 15 ST "coder" "B", .code IsL.yN IsL.yB 1 (some .boolean), .methodLink ST 492 IsL.yN, .declares IsL.yN, .selects ST IsL.yN IsL.yN, .instanceMethod IsL.yN,
  .methodLink ST 495 LChA.yN, .static LChA.yN, .code LChA.yN LChA.yB 2 (some .char), .initialized "java/lang/StringLatin1", .methodLink "java/lang/StringLatin1" 9 JO.Str_checkIndex.yN, .static JO.Str_checkIndex.yN, .code JO.Str_checkIndex.yN JO.Str_checkIndex.yB 2 none,
  .fieldLink ST 1053 "jdk/internal/util/Preconditions" "SIOOBE_FORMATTER" "Ljava/util/function/BiFunction;", .methodLink ST 1059 JC.PreCheck.yN, .static JC.PreCheck.yN, .code JC.PreCheck.yN JC.PreCheck.yB 3 (some .int), .initialized "jdk/internal/util/Preconditions"]
theorem tabChN_of {a : Array Value} {s : State} (h : ∀ w ∈ wordsChN, w.before a s = true) : ChN.tab.before a s = true := by
  have hp : JC.PreCheck.tab.before a s = true := unparts (wk h (.code JC.PreCheck.yN JC.PreCheck.yB 3 (some .int))) (wks h (.initialized JC.PreCheck.yN.cls :: JC.PreCheck.site))
  have qk := consq hp h
  have hk : JO.Str_checkIndex.tab.before a s = true := unparts (wk qk (.code JO.Str_checkIndex.yN JO.Str_checkIndex.yB 2 none)) (wks qk (.initialized JO.Str_checkIndex.yN.cls :: JO.Str_checkIndex.site))
  have ql := consq hk h
  have hl : LChA.tab.before a s = true := unparts (wk ql (.code LChA.yN LChA.yB 2 (some .char))) (wks ql (.initialized LChA.yN.cls :: LChA.site))
  have hi : IsL.tab.before a s = true := unparts (wk h (.code IsL.yN IsL.yB 1 (some .boolean))) (wks h (.initialized IsL.yN.cls :: IsL.site))
  have q := consq hi (consq hl h)
  exact unparts (wk q (.code ChN.yN ChN.yB 2 (some .char))) (wks q (.initialized ChN.yN.cls :: ChN.site))
theorem movedChN {Z s : State} {a0 args : Array Value} (hZ : Z.Warmed39 s.vm) (hw : ∀ d ∈ wordsChN, d.before a0 Z = true) : ∀ d ∈ wordsChN, d.before args s = true := fun d hd => by
  have t : ∀ d ∈ wordsChN, (d.onTables && d.keepsFace) = true := by decide +kernel
  exact RoadKit.mv hZ (hw d hd) (t d hd)
/-- **charAt(i) OF A LATIN-1 STRING**, i < n: the char -/
theorem chN {p : Program} {l : Launch} {e : Env} {R : Room} {s : State} {args : Array Value} {below : List Frame} {len W : Nat} {Z : State} {a0 : Array Value} {h : Heap} (hZ : Z.Warmed39 s.vm) (hw : ∀ d ∈ wordsChN, d.before a0 Z = true) {kI : Nat} (wi : (Jvm.Cond.instantiable ST kI).before a0 Z = true)
    {x t : Addr} {kb : ClassId} {cs : List Int32} {N2 z : Int32} {vs : List Value} {fm : Value} {i : Nat} {j : Int32} (E : RoadKit.Exa Z h x ST) (V : RoadKit.Fld Z h x ST "value" "[B" (.ref t)) (C : RoadKit.Fld Z h x ST "coder" "B" (.int 0)) (K : RoadKit.Arv Z h t kb .byte N2 vs (.int 0)) (hc : CodA cs 0 N2 vs) (hb : ∀ c ∈ cs, ¬ c < 0 ∧ ¬ (65535 : Int32) < c)
    (S : RoadKit.Sta Z h ST "COMPACT_STRINGS" "Z" (.int z)) (hz : ¬ z = 0) (F : RoadKit.Sta Z h "jdk/internal/util/Preconditions" "SIOOBE_FORMATTER" "Ljava/util/function/BiFunction;" fm) (rf : fm.isRef = true) (l2 : cs.length ≤ 4000) (hi : i < cs.length) (hj : j = Int32.ofNat i) (hfr : 4 ≤ R.frames) (hlo : W + 53 ≤ R.locals) :
    Back l R p e below s args (⟨"java/lang/String", "charAt", "(I)C"⟩ : MethodName) len W (fun P a => a = #[.ref x, .int j] ∧ P.U.heap = h ∧ P.cells + 0 ≤ R.cells ∧ P.slots + 0 ≤ R.slots)
      (fun P _ v B => ∃ L, (v = some (.int (cs.getD i 0)) ∧ L = [] ∧ B.U.heap = h) ∧ B.locs = P.locs ++ L ∧ B.cells = P.cells + 0 ∧ B.slots = P.slots + 0) := by
  subst hj
  intro m meth c P g ig mk a X hg hsize hdg hW hn hp'
  obtain ⟨rfl, rfl, r1, r2⟩ := hp'
  have al : Z.vm.Alike P.U.vm := hZ.alike.trans X.warmed.alike
  obtain ⟨A, hx⟩ := txt_of wi al E V C K hc hb l2
  obtain ⟨v, B, X', ⟨⟨hv, hh⟩, hl, hk, hs⟩, st⟩ := ChN.pays x t A cs.length (fun j => cs.getD j 0) z fm i (tabChN_of (movedChN hZ hw)) hfr hlo m meth c P g ig mk _ X hg hsize hdg hW hn ⟨r1, r2, rfl, hx, hi, sta_is al S, hz, sta_is al F, rf⟩
  exact ⟨v, B, X', ⟨[], ⟨hv, rfl, hh⟩, hl, hk, hs⟩, st⟩
/-- what backV says of its String, as the contracts of this text ask it: cs's low bytes, coder 0 -/
theorem codOf {cs : List Int32} {n : Nat} (hn : cs.length = n) (hb : ∀ c ∈ cs, ¬ 255 < c) : CodA cs 0 (Int32.ofNat n) ((cs.map lo8).map Value.int) := Or.inl ⟨rfl, by rw [hn], by simp [List.map_map, Function.comp_def], hb⟩
end StrChars.Road
end Jvm.Pilot.@@N@@
namespace Jvm.Pilot.@@N@@.W
open Jvm Jvm.ClassFile Sem Op Lib Jvm.Free Jvm.Stand Jvm.LawKit Jvm.RoadKit
/-- a String with the chars cs -/
def Str (Z : State) (h : Heap) (a : Addr) (cs : List Int32) : Prop :=
  ∃ (t : Addr) (kb : ClassId) (cd N2 : Int32) (vs : List Value), Exa Z h a "java/lang/String" ∧ Fld Z h a "java/lang/String" "value" "[B" (.ref t) ∧ Fld Z h a "java/lang/String" "coder" "B" (.int cd) ∧ Arv Z h t kb .byte N2 vs (.int 0) ∧ StrChars.Road.CodA cs cd N2 vs ∧ (∀ c ∈ cs, ¬ c < 0 ∧ ¬ (65535 : Int32) < c) ∧ cs.length ≤ 4000
theorem Str.ext {Z : State} {h h' : Heap} {a : Addr} {cs : List Int32} (F : Str Z h a cs) (E : Ext h h') : Str Z h' a cs := by
  obtain ⟨t, kb, cd, N2, vs, f1, f2, f3, f4, f5⟩ := F
  exact ⟨t, kb, cd, N2, vs, f1.ext E, f2.ext E, f3.ext E, f4.ext E, f5⟩
theorem Str.exa {Z : State} {h : Heap} {a : Addr} {cs : List Int32} (F : Str Z h a cs) : Exa Z h a "java/lang/String" := by
  obtain ⟨t, kb, cd, N2, vs, f1, -⟩ := F; exact f1
theorem up16 {cs : List Int32} (h : ∀ c ∈ cs, ¬ c < 0 ∧ ¬ (255 : Int32) < c) : ∀ c ∈ cs, ¬ c < 0 ∧ ¬ (65535 : Int32) < c := fun c hc => ⟨(h c hc).1, fun q => (h c hc).2 (by rw [Int32.lt_iff_toInt_lt] at q ⊢; have e1 : (65535 : Int32).toInt = 65535 := rfl; have e2 : (255 : Int32).toInt = 255 := rfl; omega)⟩
/-- a text's chars -/
def chs (text : String) : List Int32 := text.toList.map fun c => Int32.ofNat c.toNat
theorem Str.lit {Z : State} {h : Heap} {xs : List Addr} {a : Addr} {text : String} (hlat : ∀ c ∈ text.toList, c.toNat < 256) (hlen : text.toList.length ≤ 4000) (F : ∃ units : Array UInt16, utf16ToString? units = some text ∧ Lt Z h xs a units) : Str Z h a (chs text) := by
  obtain ⟨units, hu, t, kb, f1, f2, f3, f4, -, -⟩ := F
  have e := Jvm.ClassFile.units_of_text hu hlat
  have hsz : units.size = (chs text).length := by rw [← Array.length_toList, e]; simp [chs]
  have t255 : ∀ k : Fin 256, Jvm.Lit.byteI (k.val.toUInt16) = (Int32.ofNat k.val).toInt8.toInt32 ∧ ¬ (255 : Int32) < Int32.ofNat k.val ∧ ¬ Int32.ofNat k.val < 0 := by decide +kernel
  have hb : ∀ c ∈ chs text, ¬ c < 0 ∧ ¬ (255 : Int32) < c := fun c hc => by
    obtain ⟨ch, h1, rfl⟩ := List.mem_map.mp hc
    exact ⟨(t255 ⟨_, hlat ch h1⟩).2.2, (t255 ⟨_, hlat ch h1⟩).2.1⟩
  refine ⟨t, kb, 0, _, _, f1, f2, f3, f4, Or.inl ⟨rfl, by rw [hsz], ?_, fun c hc => (hb c hc).2⟩, up16 hb, by simpa [chs] using hlen⟩
  rw [e]
  simp only [chs, List.map_map]
  refine List.map_congr_left fun ch h1 => ?_
  exact congrArg Value.int (t255 ⟨_, hlat ch h1⟩).1
/-- a constructor's writes into an object that is no String leave every String -/
theorem Str.keepO {Z : State} {h h' : Heap} {s a : Addr} {C : String} {cs : List Int32} {a0 : Array Value} {n : Nat} (F : Str Z h s cs) (E : Exa Z h a C) (hC : C ≠ "java/lang/String") (wi : (Cond.instantiable C n).before a0 Z = true) (K : Keep h h' [a]) : Str Z h' s cs := by
  obtain ⟨t, kb, cd, N2, vs, f1, f2, f3, f4, f5⟩ := F
  have n1 : s ∉ [a] := ninS (fun q => (Exa.ne E f1 hC) q.symm) nin0
  have n2 : t ∉ [a] := ninS (fun q => (Exa.neArv E f4 wi) q.symm) nin0
  exact ⟨t, kb, cd, N2, vs, f1.keep K, f2.keep K n1, f3.keep K n1, f4.keep K n2, f5⟩
section Rules
variable {p : Program} {l : Launch} {e : Env} {R : Room} {s : State} {m : MethodId} {args : Array Value} {below : List Frame} {meth : Method} {c : Code} {Z : State} {a0 : Array Value} {own mn : String} {cl : List (String × Nat)} {xs0 xs : List Addr} {bytes : ByteArray} {maxL : Nat} {ret : Option FieldType} {n0 kc ks : Nat} {Q : Option Value → Heap → Prop} {h : Heap} {cells slots : Nat} {pc q : Nat} {L : Array Slot} {S : List Value}
/-- new String(char[]): 1 to 4,000 chars, each 0 to 255 -/
theorem Go.newStr (K : Cx0 bytes maxL ret mn p meth c) (hq : pc + 3 = q) (hws : ∀ d ∈ StrChars.Road.words, d.before a0 Z = true) (wi : (Cond.instantiable "java/lang/String" 4).before a0 Z = true) {i : Nat} {bytes' : ByteArray} (w1 : (Cond.methodLink own i (⟨"java/lang/String", "<init>", "([C)V"⟩ : MethodName)).before a0 Z = true) (w2 : (Cond.instanceMethod (⟨"java/lang/String", "<init>", "([C)V"⟩ : MethodName)).before a0 Z = true) (w4 : (Cond.code (⟨"java/lang/String", "<init>", "([C)V"⟩ : MethodName) bytes' 2 none).before a0 Z = true)
    {x b : Addr} {kC : ClassId} {cs : List Int32} {d v0 c0 : Value} {z N : Int32} {n : Nat} (hx0 : n0 ≤ x) (hh0 : n0 ≤ h.size) (E : Exa Z h x "java/lang/String") (V : Fld Z h x "java/lang/String" "value" "[B" v0) (C : Fld Z h x "java/lang/String" "coder" "B" c0) (A : Arv Z h b kC .char N (cs.map Value.int) d) (Sa : Sta Z h "java/lang/String" "COMPACT_STRINGS" "Z" (.int z)) (hz : ¬ z = 0)
    (hn : cs.length = n) (hN : N = Int32.ofNat n) (l0 : 0 < n) (l2 : n ≤ 4000) (hp : ∀ c ∈ cs, ¬ c < 0 ∧ ¬ (255 : Int32) < c) (hd : decode bytes pc = .ok (.invokespecial i, 3)) (hax : x ∈ xs) (hfr : 4 ≤ R.frames) {W cells' slots' : Nat} (hsz : L.size = maxL) (hW : (S.map fun v => v.category).sum ≤ W) (hlo : W + 65 ≤ R.locals) (hc : cells + 1 = cells') (hs : slots + n = slots') (hc' : cells' ≤ R.cells) (hs' : slots' ≤ R.slots)
    (r : ∀ h', Keep h h' [x] → Str Z h' x cs → Go p l e R s m args below meth c Z own cl xs0 n0 kc ks Q xs h' cells' slots' (mkF m q L S)) : Go p l e R s m args below meth c Z own cl xs0 n0 kc ks Q xs h cells slots (mkF m pc L (.ref b :: .ref x :: S)) :=
  Go.bI K hq rfl w1 w2 w4 (by decide) (fun s' hZ => StrChars.Road.backV (W := W) hZ hws (kI := 4) wi (cs := cs) (bs := cs.map (fun c => c.toInt8.toInt32)) (n := n) hx0 hh0 E V C A Sa hz hn hN l0 l2 hp rfl hfr hlo) (sig := ⟨[.array .char], none⟩) (by decide +kernel) (a := x) (argsL := [.ref b]) (rest := S) rfl rfl rfl hsz hW hd hc hs hc' hs'
    (fun v h' L' hQ => by
      obtain ⟨rfl, N', KK, g1, g2, t, kb, u1, u2, u3, g3, g4⟩ := hQ
      refine ⟨N', KK.1, xs, fun vm H => H.keep KK (allS hax all0), r h' KK ⟨t, kb, 0, N, _, g1, g3, g2, g4, ?_, up16 hp, by omega⟩⟩
      subst hN
      exact StrChars.Road.codOf hn (fun c hc => (hp c hc).2))
/-- equals of two Strings -/
theorem Go.strEq (K : Cx0 bytes maxL ret mn p meth c) (hq : pc + 3 = q) (hws : ∀ d ∈ StrChars.Road.wordsEq, d.before a0 Z = true) (wi : (Cond.instantiable "java/lang/String" 4).before a0 Z = true) {i : Nat} {y : MethodName} (w1 : (Cond.methodLink own i y).before a0 Z = true) (w2 : (Cond.declares y).before a0 Z = true) (nf : ∀ s' : State, Z.Warmed39 s'.vm → NotFace s' y) (w3 : (Cond.selects "java/lang/String" y (⟨"java/lang/String", "equals", "(Ljava/lang/Object;)Z"⟩ : MethodName)).before a0 Z = true) (w4 : (Cond.instanceMethod (⟨"java/lang/String", "equals", "(Ljava/lang/Object;)Z"⟩ : MethodName)).before a0 Z = true) (hy : y.cls ≠ "java/lang/invoke/MethodHandle" ∧ y.cls ≠ "java/lang/invoke/VarHandle") (hyd : y.desc = "(Ljava/lang/Object;)Z")
    {a b : Addr} {cs ds : List Int32} {z : Int32} (F : Str Z h a cs) (G : Str Z h b ds) (Sa : Sta Z h "java/lang/String" "COMPACT_STRINGS" "Z" (.int z)) (hz : ¬ z = 0) (hd : decode bytes pc = .ok (.invokevirtual i, 3)) (hfr : 2 ≤ R.frames) {W : Nat} (hsz : L.size = maxL) (hW : (S.map fun v => v.category).sum ≤ W) (hlo : W + 28 ≤ R.locals) (hc : cells ≤ R.cells) (hs : slots ≤ R.slots)
    (r1 : cs = ds → Go p l e R s m args below meth c Z own cl xs0 n0 kc ks Q xs h cells slots (mkF m q L (.int 1 :: S))) (r0 : ¬ cs = ds → Go p l e R s m args below meth c Z own cl xs0 n0 kc ks Q xs h cells slots (mkF m q L (.int 0 :: S))) : Go p l e R s m args below meth c Z own cl xs0 n0 kc ks Q xs h cells slots (mkF m pc L (.ref b :: .ref a :: S)) := by
  obtain ⟨t, kb, cd, N2, vs, f1, f2, f3, f4, f5, f6, f7⟩ := F
  obtain ⟨t', kb', cd', N2', vs', g1, g2, g3, g4, g5, g6, g7⟩ := G
  exact Go.bV K hq w1 w2 nf w3 w4 hy (W := W) (dc := 0) (ds := 0) (QQ := fun v h' L => ((v = some (.int 1) ∧ cs = ds) ∨ (v = some (.int 0) ∧ ¬ cs = ds)) ∧ L = [] ∧ h' = h) (fun s' hZ => StrChars.Road.eqW (W := W) hZ hws (kI := 4) wi f1 f2 f3 f4 f5 f6 f7 g1 g2 g3 g4 g5 g6 g7 Sa hz hfr hlo) f1 (sig := ⟨[.object "java/lang/Object"], some .boolean⟩) (by rw [hyd]; decide +kernel) (argsL := [.ref b]) (rest := S) rfl rfl rfl hsz hW hd rfl rfl hc hs
    (fun v h' L' hQ => by
      obtain ⟨hv, rfl, rfl⟩ := hQ
      refine ⟨Fr.nil n0, Nat.le_refl _, xs, fun vm H => H, ?_⟩
      rcases hv with ⟨rfl, q1⟩ | ⟨rfl, q1⟩
      · exact r1 q1
      · exact r0 q1)
/-- length() -/
theorem Go.strLen (K : Cx0 bytes maxL ret mn p meth c) (hq : pc + 3 = q) (hws : ∀ d ∈ StrChars.Road.wordsLen, d.before a0 Z = true) (wi : (Cond.instantiable "java/lang/String" 4).before a0 Z = true) {i : Nat} (w1 : (Cond.methodLink own i (⟨"java/lang/String", "length", "()I"⟩ : MethodName)).before a0 Z = true) (w2 : (Cond.declares (⟨"java/lang/String", "length", "()I"⟩ : MethodName)).before a0 Z = true) (w3 : (Cond.selects "java/lang/String" (⟨"java/lang/String", "length", "()I"⟩ : MethodName) (⟨"java/lang/String", "length", "()I"⟩ : MethodName)).before a0 Z = true) (w4 : (Cond.instanceMethod (⟨"java/lang/String", "length", "()I"⟩ : MethodName)).before a0 Z = true)
    {a : Addr} {cs : List Int32} {z : Int32} (F : Str Z h a cs) (Sa : Sta Z h "java/lang/String" "COMPACT_STRINGS" "Z" (.int z)) (hz : ¬ z = 0) (hd : decode bytes pc = .ok (.invokevirtual i, 3)) (hfr : 2 ≤ R.frames) {W : Nat} (hsz : L.size = maxL) (hW : (S.map fun v => v.category).sum ≤ W) (hlo : W + 25 ≤ R.locals) (hc : cells ≤ R.cells) (hs : slots ≤ R.slots)
    (r : Go p l e R s m args below meth c Z own cl xs0 n0 kc ks Q xs h cells slots (mkF m q L (.int (Int32.ofNat cs.length) :: S))) : Go p l e R s m args below meth c Z own cl xs0 n0 kc ks Q xs h cells slots (mkF m pc L (.ref a :: S)) := by
  obtain ⟨t, kb, cd, N2, vs, f1, f2, f3, f4, f5, f6, f7⟩ := F
  exact Go.bV K hq w1 w2 (nfS w3) w3 w4 (by decide) (W := W) (dc := 0) (ds := 0) (QQ := fun v h' L => v = some (.int (Int32.ofNat cs.length)) ∧ L = [] ∧ h' = h) (fun s' hZ => StrChars.Road.lenW (W := W) hZ hws (kI := 4) wi f1 f2 f3 f4 f5 f6 Sa hz f7 hfr hlo) f1 (sig := ⟨[], some .int⟩) (by decide +kernel) (argsL := []) (rest := S) rfl rfl rfl hsz hW hd rfl rfl hc hs
    (fun v h' L' hQ => by
      obtain ⟨rfl, rfl, rfl⟩ := hQ
      exact ⟨Fr.nil n0, Nat.le_refl _, xs, fun vm H => H, r⟩)
/-- charAt(int) of a String whose chars are 0 to 255 -/
theorem Go.strCh (K : Cx0 bytes maxL ret mn p meth c) (hq : pc + 3 = q) (hws : ∀ d ∈ StrChars.Road.wordsChN, d.before a0 Z = true) (wi : (Cond.instantiable "java/lang/String" 4).before a0 Z = true) {i : Nat} (w1 : (Cond.methodLink own i (⟨"java/lang/String", "charAt", "(I)C"⟩ : MethodName)).before a0 Z = true) (w2 : (Cond.declares (⟨"java/lang/String", "charAt", "(I)C"⟩ : MethodName)).before a0 Z = true) (w3 : (Cond.selects "java/lang/String" (⟨"java/lang/String", "charAt", "(I)C"⟩ : MethodName) (⟨"java/lang/String", "charAt", "(I)C"⟩ : MethodName)).before a0 Z = true) (w4 : (Cond.instanceMethod (⟨"java/lang/String", "charAt", "(I)C"⟩ : MethodName)).before a0 Z = true)
    {a : Addr} {cs : List Int32} {z j : Int32} {n : Nat} {fm : Value} (F : Str Z h a cs) (Sa : Sta Z h "java/lang/String" "COMPACT_STRINGS" "Z" (.int z)) (hz : ¬ z = 0) (Sf : Sta Z h "jdk/internal/util/Preconditions" "SIOOBE_FORMATTER" "Ljava/util/function/BiFunction;" fm) (rf : fm.isRef = true) (hlat : ∀ c ∈ cs, ¬ (255 : Int32) < c) (hn : n < cs.length) (hj : j = Int32.ofNat n) (hd : decode bytes pc = .ok (.invokevirtual i, 3)) (hfr : 4 ≤ R.frames) {W : Nat} (hsz : L.size = maxL) (hW : (S.map fun v => v.category).sum ≤ W) (hlo : W + 53 ≤ R.locals) (hc : cells ≤ R.cells) (hs : slots ≤ R.slots)
    (r : Go p l e R s m args below meth c Z own cl xs0 n0 kc ks Q xs h cells slots (mkF m q L (.int (cs.getD n 0) :: S))) : Go p l e R s m args below meth c Z own cl xs0 n0 kc ks Q xs h cells slots (mkF m pc L (.int j :: .ref a :: S)) := by
  obtain ⟨t, kb, cd, N2, vs, f1, f2, f3, f4, f5, f6, f7⟩ := F
  have e0 : cd = 0 := by
    rcases f5 with z | ⟨-, -, -, x, hx, q⟩
    · exact z.1
    · exact absurd q (hlat x hx)
  subst e0
  exact Go.bV K hq w1 w2 (nfS w3) w3 w4 (by decide) (W := W) (dc := 0) (ds := 0) (QQ := fun v h' L => v = some (.int (cs.getD n 0)) ∧ L = [] ∧ h' = h) (fun s' hZ => StrChars.Road.chN (W := W) hZ hws (kI := 4) wi f1 f2 f3 f4 f5 f6 Sa hz Sf rf f7 hn hj hfr hlo) f1 (sig := ⟨[.int], some .char⟩) (by decide +kernel) (argsL := [.int j]) (rest := S) rfl rfl rfl hsz hW hd rfl rfl hc hs
    (fun v h' L' hQ => by
      obtain ⟨rfl, rfl, rfl⟩ := hQ
      exact ⟨Fr.nil n0, Nat.le_refl _, xs, fun vm H => H, r⟩)
end Rules
end Jvm.Pilot.@@N@@.W
namespace Jvm.Pilot.@@N@@
open Jvm Jvm.ClassFile Sem Op Lib Jvm.Free Jvm.Stand Jvm.LawKit Jvm.RoadKit Bundle Jvm.Pilot.@@N@@.W Jvm.Pilot.@@N@@.Jvm.D
theorem d26_0 : decode jdk_31_method_10_code 0 = .ok (.aload_n 0, 1) := by decide +kernel
theorem d26_1 : decode jdk_31_method_10_code 1 = .ok (.ifnonnull 11, 3) := by decide +kernel
theorem d26_12 : decode jdk_31_method_10_code 12 = .ok (.aload_n 0, 1) := by decide +kernel
theorem d26_13 : decode jdk_31_method_10_code 13 = .ok (.areturn, 1) := by decide +kernel
theorem d27_0 : decode jdk_32_method_2_code 0 = .ok (.aload_n 0, 1) := by decide +kernel
theorem d27_1 : decode jdk_32_method_2_code 1 = .ok (.invokespecial 7, 3) := by decide +kernel
theorem d27_4 : decode jdk_32_method_2_code 4 = .ok (.aload_n 0, 1) := by decide +kernel
theorem d27_5 : decode jdk_32_method_2_code 5 = .ok (.aload_n 1, 1) := by decide +kernel
theorem d27_6 : decode jdk_32_method_2_code 6 = .ok (.putfield 13, 3) := by decide +kernel
theorem d27_9 : decode jdk_32_method_2_code 9 = .ok (.return_, 1) := by decide +kernel
theorem d25_0 : decode jdk_32_method_3_code 0 = .ok (.new 2, 3) := by decide +kernel
theorem d25_3 : decode jdk_32_method_3_code 3 = .ok (.dup, 1) := by decide +kernel
theorem d25_4 : decode jdk_32_method_3_code 4 = .ok (.aload_n 0, 1) := by decide +kernel
theorem d25_5 : decode jdk_32_method_3_code 5 = .ok (.invokestatic 17, 3) := by decide +kernel
theorem d25_8 : decode jdk_32_method_3_code 8 = .ok (.invokespecial 23, 3) := by decide +kernel
theorem d25_11 : decode jdk_32_method_3_code 11 = .ok (.areturn, 1) := by decide +kernel
theorem d20_0 : decode jdk_32_method_1_code 0 = .ok (.getstatic 1, 3) := by decide +kernel
theorem d20_3 : decode jdk_32_method_1_code 3 = .ok (.astore_n 0, 1) := by decide +kernel
theorem d20_4 : decode jdk_32_method_1_code 4 = .ok (.aload_n 0, 1) := by decide +kernel
theorem d20_5 : decode jdk_32_method_1_code 5 = .ok (.areturn, 1) := by decide +kernel
theorem d21_0 : decode jdk_32_method_6_code 0 = .ok (.aload_n 0, 1) := by decide +kernel
theorem d21_1 : decode jdk_32_method_6_code 1 = .ok (.getfield 13, 3) := by decide +kernel
theorem d21_4 : decode jdk_32_method_6_code 4 = .ok (.ifnull 7, 3) := by decide +kernel
theorem d21_11 : decode jdk_32_method_6_code 11 = .ok (.iconst 0, 1) := by decide +kernel
theorem d21_12 : decode jdk_32_method_6_code 12 = .ok (.ireturn, 1) := by decide +kernel
theorem d21_7 : decode jdk_32_method_6_code 7 = .ok (.iconst 1, 1) := by decide +kernel
theorem d21_8 : decode jdk_32_method_6_code 8 = .ok (.goto 4, 3) := by decide +kernel
theorem d28_0 : decode jdk_32_method_5_code 0 = .ok (.aload_n 0, 1) := by decide +kernel
theorem d28_1 : decode jdk_32_method_5_code 1 = .ok (.getfield 13, 3) := by decide +kernel
theorem d28_4 : decode jdk_32_method_5_code 4 = .ok (.ifnonnull 13, 3) := by decide +kernel
theorem d28_17 : decode jdk_32_method_5_code 17 = .ok (.aload_n 0, 1) := by decide +kernel
theorem d28_18 : decode jdk_32_method_5_code 18 = .ok (.getfield 13, 3) := by decide +kernel
theorem d28_21 : decode jdk_32_method_5_code 21 = .ok (.areturn, 1) := by decide +kernel
theorem d11_0 : decode jdk_42_method_149_code 0 = .ok (.aload_n 0, 1) := by decide +kernel
theorem d11_1 : decode jdk_42_method_149_code 1 = .ok (.invokespecial 1, 3) := by decide +kernel
theorem d11_4 : decode jdk_42_method_149_code 4 = .ok (.iload_n 3, 1) := by decide +kernel
theorem d11_5 : decode jdk_42_method_149_code 5 = .ok (.ifCond .ne 22, 3) := by decide +kernel
theorem d11_8 : decode jdk_42_method_149_code 8 = .ok (.aload_n 0, 1) := by decide +kernel
theorem d11_9 : decode jdk_42_method_149_code 9 = .ok (.ldc 7, 2) := by decide +kernel
theorem d11_11 : decode jdk_42_method_149_code 11 = .ok (.getfield 9, 3) := by decide +kernel
theorem d11_14 : decode jdk_42_method_149_code 14 = .ok (.putfield 9, 3) := by decide +kernel
theorem d11_17 : decode jdk_42_method_149_code 17 = .ok (.aload_n 0, 1) := by decide +kernel
theorem d11_18 : decode jdk_42_method_149_code 18 = .ok (.ldc 7, 2) := by decide +kernel
theorem d11_20 : decode jdk_42_method_149_code 20 = .ok (.getfield 15, 3) := by decide +kernel
theorem d11_23 : decode jdk_42_method_149_code 23 = .ok (.putfield 15, 3) := by decide +kernel
theorem d11_26 : decode jdk_42_method_149_code 26 = .ok (.return_, 1) := by decide +kernel
theorem d10_0 : decode jdk_42_method_3_code 0 = .ok (.aload_n 0, 1) := by decide +kernel
theorem d10_1 : decode jdk_42_method_3_code 1 = .ok (.aload_n 1, 1) := by decide +kernel
theorem d10_2 : decode jdk_42_method_3_code 2 = .ok (.iconst 0, 1) := by decide +kernel
theorem d10_3 : decode jdk_42_method_3_code 3 = .ok (.aload_n 1, 1) := by decide +kernel
theorem d10_4 : decode jdk_42_method_3_code 4 = .ok (.arraylength, 1) := by decide +kernel
theorem d10_5 : decode jdk_42_method_3_code 5 = .ok (.aconst_null, 1) := by decide +kernel
theorem d10_6 : decode jdk_42_method_3_code 6 = .ok (.invokespecial 27, 3) := by decide +kernel
theorem d10_9 : decode jdk_42_method_3_code 9 = .ok (.return_, 1) := by decide +kernel
theorem d1_0 : decode method_3_code 0 = .ok (.iload_n 0, 1) := by decide +kernel
theorem d1_1 : decode method_3_code 1 = .ok (.ifCond .ne 6, 3) := by decide +kernel
theorem d1_7 : decode method_3_code 7 = .ok (.iload_n 0, 1) := by decide +kernel
theorem d1_8 : decode method_3_code 8 = .ok (.iconst 1, 1) := by decide +kernel
theorem d1_9 : decode method_3_code 9 = .ok (.if_icmp .ne 6, 3) := by decide +kernel
theorem d1_15 : decode method_3_code 15 = .ok (.iload_n 0, 1) := by decide +kernel
theorem d1_16 : decode method_3_code 16 = .ok (.iconst 2, 1) := by decide +kernel
theorem d1_17 : decode method_3_code 17 = .ok (.if_icmp .ne 6, 3) := by decide +kernel
theorem d1_23 : decode method_3_code 23 = .ok (.ldc 64, 2) := by decide +kernel
theorem d1_25 : decode method_3_code 25 = .ok (.areturn, 1) := by decide +kernel
theorem d1_20 : decode method_3_code 20 = .ok (.ldc 62, 2) := by decide +kernel
theorem d1_22 : decode method_3_code 22 = .ok (.areturn, 1) := by decide +kernel
theorem d1_12 : decode method_3_code 12 = .ok (.ldc 60, 2) := by decide +kernel
theorem d1_14 : decode method_3_code 14 = .ok (.areturn, 1) := by decide +kernel
theorem d1_4 : decode method_3_code 4 = .ok (.ldc 58, 2) := by decide +kernel
theorem d1_6 : decode method_3_code 6 = .ok (.areturn, 1) := by decide +kernel
theorem d9_0 : decode method_5_code 0 = .ok (.iload_n 0, 1) := by decide +kernel
theorem d9_1 : decode method_5_code 1 = .ok (.ifCond .ne 69, 3) := by decide +kernel
theorem d9_70 : decode method_5_code 70 = .ok (.iload_n 0, 1) := by decide +kernel
theorem d9_71 : decode method_5_code 71 = .ok (.iconst 1, 1) := by decide +kernel
theorem d9_72 : decode method_5_code 72 = .ok (.if_icmp .ne 63, 3) := by decide +kernel
theorem d9_135 : decode method_5_code 135 = .ok (.iload_n 0, 1) := by decide +kernel
theorem d9_136 : decode method_5_code 136 = .ok (.iconst 2, 1) := by decide +kernel
theorem d9_137 : decode method_5_code 137 = .ok (.if_icmp .ne 57, 3) := by decide +kernel
theorem d9_194 : decode method_5_code 194 = .ok (.iconst 4, 1) := by decide +kernel
theorem d9_195 : decode method_5_code 195 = .ok (.newarray .char, 2) := by decide +kernel
theorem d9_197 : decode method_5_code 197 = .ok (.dup, 1) := by decide +kernel
theorem d9_198 : decode method_5_code 198 = .ok (.iconst 0, 1) := by decide +kernel
theorem d9_199 : decode method_5_code 199 = .ok (.bipush 110, 2) := by decide +kernel
theorem d9_201 : decode method_5_code 201 = .ok (.castore, 1) := by decide +kernel
theorem d9_202 : decode method_5_code 202 = .ok (.dup, 1) := by decide +kernel
theorem d9_203 : decode method_5_code 203 = .ok (.iconst 1, 1) := by decide +kernel
theorem d9_204 : decode method_5_code 204 = .ok (.bipush 97, 2) := by decide +kernel
theorem d9_206 : decode method_5_code 206 = .ok (.castore, 1) := by decide +kernel
theorem d9_207 : decode method_5_code 207 = .ok (.dup, 1) := by decide +kernel
theorem d9_208 : decode method_5_code 208 = .ok (.iconst 2, 1) := by decide +kernel
theorem d9_209 : decode method_5_code 209 = .ok (.bipush 109, 2) := by decide +kernel
theorem d9_211 : decode method_5_code 211 = .ok (.castore, 1) := by decide +kernel
theorem d9_212 : decode method_5_code 212 = .ok (.dup, 1) := by decide +kernel
theorem d9_213 : decode method_5_code 213 = .ok (.iconst 3, 1) := by decide +kernel
theorem d9_214 : decode method_5_code 214 = .ok (.bipush 101, 2) := by decide +kernel
theorem d9_216 : decode method_5_code 216 = .ok (.castore, 1) := by decide +kernel
theorem d9_217 : decode method_5_code 217 = .ok (.astore_n 3, 1) := by decide +kernel
theorem d9_218 : decode method_5_code 218 = .ok (.aload_n 3, 1) := by decide +kernel
theorem d9_219 : decode method_5_code 219 = .ok (.iload_n 1, 1) := by decide +kernel
theorem d9_220 : decode method_5_code 220 = .ok (.iload_n 2, 1) := by decide +kernel
theorem d9_221 : decode method_5_code 221 = .ok (.castore, 1) := by decide +kernel
theorem d9_222 : decode method_5_code 222 = .ok (.new 14, 3) := by decide +kernel
theorem d9_225 : decode method_5_code 225 = .ok (.dup, 1) := by decide +kernel
theorem d9_226 : decode method_5_code 226 = .ok (.aload_n 3, 1) := by decide +kernel
theorem d9_227 : decode method_5_code 227 = .ok (.invokespecial 39, 3) := by decide +kernel
theorem d9_230 : decode method_5_code 230 = .ok (.areturn, 1) := by decide +kernel
theorem d9_140 : decode method_5_code 140 = .ok (.bipush 7, 2) := by decide +kernel
theorem d9_142 : decode method_5_code 142 = .ok (.newarray .char, 2) := by decide +kernel
theorem d9_144 : decode method_5_code 144 = .ok (.dup, 1) := by decide +kernel
theorem d9_145 : decode method_5_code 145 = .ok (.iconst 0, 1) := by decide +kernel
theorem d9_146 : decode method_5_code 146 = .ok (.bipush 100, 2) := by decide +kernel
theorem d9_148 : decode method_5_code 148 = .ok (.castore, 1) := by decide +kernel
theorem d9_149 : decode method_5_code 149 = .ok (.dup, 1) := by decide +kernel
theorem d9_150 : decode method_5_code 150 = .ok (.iconst 1, 1) := by decide +kernel
theorem d9_151 : decode method_5_code 151 = .ok (.bipush 117, 2) := by decide +kernel
theorem d9_153 : decode method_5_code 153 = .ok (.castore, 1) := by decide +kernel
theorem d9_154 : decode method_5_code 154 = .ok (.dup, 1) := by decide +kernel
theorem d9_155 : decode method_5_code 155 = .ok (.iconst 2, 1) := by decide +kernel
theorem d9_156 : decode method_5_code 156 = .ok (.bipush 101, 2) := by decide +kernel
theorem d9_158 : decode method_5_code 158 = .ok (.castore, 1) := by decide +kernel
theorem d9_159 : decode method_5_code 159 = .ok (.dup, 1) := by decide +kernel
theorem d9_160 : decode method_5_code 160 = .ok (.iconst 3, 1) := by decide +kernel
theorem d9_161 : decode method_5_code 161 = .ok (.bipush 68, 2) := by decide +kernel
theorem d9_163 : decode method_5_code 163 = .ok (.castore, 1) := by decide +kernel
theorem d9_164 : decode method_5_code 164 = .ok (.dup, 1) := by decide +kernel
theorem d9_165 : decode method_5_code 165 = .ok (.iconst 4, 1) := by decide +kernel
theorem d9_166 : decode method_5_code 166 = .ok (.bipush 97, 2) := by decide +kernel
theorem d9_168 : decode method_5_code 168 = .ok (.castore, 1) := by decide +kernel
theorem d9_169 : decode method_5_code 169 = .ok (.dup, 1) := by decide +kernel
theorem d9_170 : decode method_5_code 170 = .ok (.iconst 5, 1) := by decide +kernel
theorem d9_171 : decode method_5_code 171 = .ok (.bipush 116, 2) := by decide +kernel
theorem d9_173 : decode method_5_code 173 = .ok (.castore, 1) := by decide +kernel
theorem d9_174 : decode method_5_code 174 = .ok (.dup, 1) := by decide +kernel
theorem d9_175 : decode method_5_code 175 = .ok (.bipush 6, 2) := by decide +kernel
theorem d9_177 : decode method_5_code 177 = .ok (.bipush 101, 2) := by decide +kernel
theorem d9_179 : decode method_5_code 179 = .ok (.castore, 1) := by decide +kernel
theorem d9_180 : decode method_5_code 180 = .ok (.astore_n 3, 1) := by decide +kernel
theorem d9_181 : decode method_5_code 181 = .ok (.aload_n 3, 1) := by decide +kernel
theorem d9_182 : decode method_5_code 182 = .ok (.iload_n 1, 1) := by decide +kernel
theorem d9_183 : decode method_5_code 183 = .ok (.iload_n 2, 1) := by decide +kernel
theorem d9_184 : decode method_5_code 184 = .ok (.castore, 1) := by decide +kernel
theorem d9_185 : decode method_5_code 185 = .ok (.new 14, 3) := by decide +kernel
theorem d9_188 : decode method_5_code 188 = .ok (.dup, 1) := by decide +kernel
theorem d9_189 : decode method_5_code 189 = .ok (.aload_n 3, 1) := by decide +kernel
theorem d9_190 : decode method_5_code 190 = .ok (.invokespecial 39, 3) := by decide +kernel
theorem d9_193 : decode method_5_code 193 = .ok (.areturn, 1) := by decide +kernel
theorem d9_75 : decode method_5_code 75 = .ok (.bipush 8, 2) := by decide +kernel
theorem d9_77 : decode method_5_code 77 = .ok (.newarray .char, 2) := by decide +kernel
theorem d9_79 : decode method_5_code 79 = .ok (.dup, 1) := by decide +kernel
theorem d9_80 : decode method_5_code 80 = .ok (.iconst 0, 1) := by decide +kernel
theorem d9_81 : decode method_5_code 81 = .ok (.bipush 112, 2) := by decide +kernel
theorem d9_83 : decode method_5_code 83 = .ok (.castore, 1) := by decide +kernel
theorem d9_84 : decode method_5_code 84 = .ok (.dup, 1) := by decide +kernel
theorem d9_85 : decode method_5_code 85 = .ok (.iconst 1, 1) := by decide +kernel
theorem d9_86 : decode method_5_code 86 = .ok (.bipush 114, 2) := by decide +kernel
theorem d9_88 : decode method_5_code 88 = .ok (.castore, 1) := by decide +kernel
theorem d9_89 : decode method_5_code 89 = .ok (.dup, 1) := by decide +kernel
theorem d9_90 : decode method_5_code 90 = .ok (.iconst 2, 1) := by decide +kernel
theorem d9_91 : decode method_5_code 91 = .ok (.bipush 105, 2) := by decide +kernel
theorem d9_93 : decode method_5_code 93 = .ok (.castore, 1) := by decide +kernel
theorem d9_94 : decode method_5_code 94 = .ok (.dup, 1) := by decide +kernel
theorem d9_95 : decode method_5_code 95 = .ok (.iconst 3, 1) := by decide +kernel
theorem d9_96 : decode method_5_code 96 = .ok (.bipush 111, 2) := by decide +kernel
theorem d9_98 : decode method_5_code 98 = .ok (.castore, 1) := by decide +kernel
theorem d9_99 : decode method_5_code 99 = .ok (.dup, 1) := by decide +kernel
theorem d9_100 : decode method_5_code 100 = .ok (.iconst 4, 1) := by decide +kernel
theorem d9_101 : decode method_5_code 101 = .ok (.bipush 114, 2) := by decide +kernel
theorem d9_103 : decode method_5_code 103 = .ok (.castore, 1) := by decide +kernel
theorem d9_104 : decode method_5_code 104 = .ok (.dup, 1) := by decide +kernel
theorem d9_105 : decode method_5_code 105 = .ok (.iconst 5, 1) := by decide +kernel
theorem d9_106 : decode method_5_code 106 = .ok (.bipush 105, 2) := by decide +kernel
theorem d9_108 : decode method_5_code 108 = .ok (.castore, 1) := by decide +kernel
theorem d9_109 : decode method_5_code 109 = .ok (.dup, 1) := by decide +kernel
theorem d9_110 : decode method_5_code 110 = .ok (.bipush 6, 2) := by decide +kernel
theorem d9_112 : decode method_5_code 112 = .ok (.bipush 116, 2) := by decide +kernel
theorem d9_114 : decode method_5_code 114 = .ok (.castore, 1) := by decide +kernel
theorem d9_115 : decode method_5_code 115 = .ok (.dup, 1) := by decide +kernel
theorem d9_116 : decode method_5_code 116 = .ok (.bipush 7, 2) := by decide +kernel
theorem d9_118 : decode method_5_code 118 = .ok (.bipush 121, 2) := by decide +kernel
theorem d9_120 : decode method_5_code 120 = .ok (.castore, 1) := by decide +kernel
theorem d9_121 : decode method_5_code 121 = .ok (.astore_n 3, 1) := by decide +kernel
theorem d9_122 : decode method_5_code 122 = .ok (.aload_n 3, 1) := by decide +kernel
theorem d9_123 : decode method_5_code 123 = .ok (.iload_n 1, 1) := by decide +kernel
theorem d9_124 : decode method_5_code 124 = .ok (.iload_n 2, 1) := by decide +kernel
theorem d9_125 : decode method_5_code 125 = .ok (.castore, 1) := by decide +kernel
theorem d9_126 : decode method_5_code 126 = .ok (.new 14, 3) := by decide +kernel
theorem d9_129 : decode method_5_code 129 = .ok (.dup, 1) := by decide +kernel
theorem d9_130 : decode method_5_code 130 = .ok (.aload_n 3, 1) := by decide +kernel
theorem d9_131 : decode method_5_code 131 = .ok (.invokespecial 39, 3) := by decide +kernel
theorem d9_134 : decode method_5_code 134 = .ok (.areturn, 1) := by decide +kernel
theorem d9_4 : decode method_5_code 4 = .ok (.bipush 9, 2) := by decide +kernel
theorem d9_6 : decode method_5_code 6 = .ok (.newarray .char, 2) := by decide +kernel
theorem d9_8 : decode method_5_code 8 = .ok (.dup, 1) := by decide +kernel
theorem d9_9 : decode method_5_code 9 = .ok (.iconst 0, 1) := by decide +kernel
theorem d9_10 : decode method_5_code 10 = .ok (.bipush 99, 2) := by decide +kernel
theorem d9_12 : decode method_5_code 12 = .ok (.castore, 1) := by decide +kernel
theorem d9_13 : decode method_5_code 13 = .ok (.dup, 1) := by decide +kernel
theorem d9_14 : decode method_5_code 14 = .ok (.iconst 1, 1) := by decide +kernel
theorem d9_15 : decode method_5_code 15 = .ok (.bipush 114, 2) := by decide +kernel
theorem d9_17 : decode method_5_code 17 = .ok (.castore, 1) := by decide +kernel
theorem d9_18 : decode method_5_code 18 = .ok (.dup, 1) := by decide +kernel
theorem d9_19 : decode method_5_code 19 = .ok (.iconst 2, 1) := by decide +kernel
theorem d9_20 : decode method_5_code 20 = .ok (.bipush 101, 2) := by decide +kernel
theorem d9_22 : decode method_5_code 22 = .ok (.castore, 1) := by decide +kernel
theorem d9_23 : decode method_5_code 23 = .ok (.dup, 1) := by decide +kernel
theorem d9_24 : decode method_5_code 24 = .ok (.iconst 3, 1) := by decide +kernel
theorem d9_25 : decode method_5_code 25 = .ok (.bipush 97, 2) := by decide +kernel
theorem d9_27 : decode method_5_code 27 = .ok (.castore, 1) := by decide +kernel
theorem d9_28 : decode method_5_code 28 = .ok (.dup, 1) := by decide +kernel
theorem d9_29 : decode method_5_code 29 = .ok (.iconst 4, 1) := by decide +kernel
theorem d9_30 : decode method_5_code 30 = .ok (.bipush 116, 2) := by decide +kernel
theorem d9_32 : decode method_5_code 32 = .ok (.castore, 1) := by decide +kernel
theorem d9_33 : decode method_5_code 33 = .ok (.dup, 1) := by decide +kernel
theorem d9_34 : decode method_5_code 34 = .ok (.iconst 5, 1) := by decide +kernel
theorem d9_35 : decode method_5_code 35 = .ok (.bipush 101, 2) := by decide +kernel
theorem d9_37 : decode method_5_code 37 = .ok (.castore, 1) := by decide +kernel
theorem d9_38 : decode method_5_code 38 = .ok (.dup, 1) := by decide +kernel
theorem d9_39 : decode method_5_code 39 = .ok (.bipush 6, 2) := by decide +kernel
theorem d9_41 : decode method_5_code 41 = .ok (.bipush 100, 2) := by decide +kernel
theorem d9_43 : decode method_5_code 43 = .ok (.castore, 1) := by decide +kernel
theorem d9_44 : decode method_5_code 44 = .ok (.dup, 1) := by decide +kernel
theorem d9_45 : decode method_5_code 45 = .ok (.bipush 7, 2) := by decide +kernel
theorem d9_47 : decode method_5_code 47 = .ok (.bipush 65, 2) := by decide +kernel
theorem d9_49 : decode method_5_code 49 = .ok (.castore, 1) := by decide +kernel
theorem d9_50 : decode method_5_code 50 = .ok (.dup, 1) := by decide +kernel
theorem d9_51 : decode method_5_code 51 = .ok (.bipush 8, 2) := by decide +kernel
theorem d9_53 : decode method_5_code 53 = .ok (.bipush 116, 2) := by decide +kernel
theorem d9_55 : decode method_5_code 55 = .ok (.castore, 1) := by decide +kernel
theorem d9_56 : decode method_5_code 56 = .ok (.astore_n 3, 1) := by decide +kernel
theorem d9_57 : decode method_5_code 57 = .ok (.aload_n 3, 1) := by decide +kernel
theorem d9_58 : decode method_5_code 58 = .ok (.iload_n 1, 1) := by decide +kernel
theorem d9_59 : decode method_5_code 59 = .ok (.iload_n 2, 1) := by decide +kernel
theorem d9_60 : decode method_5_code 60 = .ok (.castore, 1) := by decide +kernel
theorem d9_61 : decode method_5_code 61 = .ok (.new 14, 3) := by decide +kernel
theorem d9_64 : decode method_5_code 64 = .ok (.dup, 1) := by decide +kernel
theorem d9_65 : decode method_5_code 65 = .ok (.aload_n 3, 1) := by decide +kernel
theorem d9_66 : decode method_5_code 66 = .ok (.invokespecial 39, 3) := by decide +kernel
theorem d9_69 : decode method_5_code 69 = .ok (.areturn, 1) := by decide +kernel
theorem d22_0 : decode method_6_code 0 = .ok (.iload_n 0, 1) := by decide +kernel
theorem d22_1 : decode method_6_code 1 = .ok (.ifCond .ne 59, 3) := by decide +kernel
theorem d22_60 : decode method_6_code 60 = .ok (.iload_n 0, 1) := by decide +kernel
theorem d22_61 : decode method_6_code 61 = .ok (.iconst 1, 1) := by decide +kernel
theorem d22_62 : decode method_6_code 62 = .ok (.if_icmp .ne 53, 3) := by decide +kernel
theorem d22_115 : decode method_6_code 115 = .ok (.iload_n 0, 1) := by decide +kernel
theorem d22_116 : decode method_6_code 116 = .ok (.iconst 2, 1) := by decide +kernel
theorem d22_117 : decode method_6_code 117 = .ok (.if_icmp .ne 47, 3) := by decide +kernel
theorem d22_164 : decode method_6_code 164 = .ok (.iconst 3, 1) := by decide +kernel
theorem d22_165 : decode method_6_code 165 = .ok (.newarray .char, 2) := by decide +kernel
theorem d22_167 : decode method_6_code 167 = .ok (.dup, 1) := by decide +kernel
theorem d22_168 : decode method_6_code 168 = .ok (.iconst 0, 1) := by decide +kernel
theorem d22_169 : decode method_6_code 169 = .ok (.bipush 110, 2) := by decide +kernel
theorem d22_171 : decode method_6_code 171 = .ok (.castore, 1) := by decide +kernel
theorem d22_172 : decode method_6_code 172 = .ok (.dup, 1) := by decide +kernel
theorem d22_173 : decode method_6_code 173 = .ok (.iconst 1, 1) := by decide +kernel
theorem d22_174 : decode method_6_code 174 = .ok (.bipush 97, 2) := by decide +kernel
theorem d22_176 : decode method_6_code 176 = .ok (.castore, 1) := by decide +kernel
theorem d22_177 : decode method_6_code 177 = .ok (.dup, 1) := by decide +kernel
theorem d22_178 : decode method_6_code 178 = .ok (.iconst 2, 1) := by decide +kernel
theorem d22_179 : decode method_6_code 179 = .ok (.bipush 109, 2) := by decide +kernel
theorem d22_181 : decode method_6_code 181 = .ok (.castore, 1) := by decide +kernel
theorem d22_182 : decode method_6_code 182 = .ok (.astore_n 1, 1) := by decide +kernel
theorem d22_183 : decode method_6_code 183 = .ok (.new 14, 3) := by decide +kernel
theorem d22_186 : decode method_6_code 186 = .ok (.dup, 1) := by decide +kernel
theorem d22_187 : decode method_6_code 187 = .ok (.aload_n 1, 1) := by decide +kernel
theorem d22_188 : decode method_6_code 188 = .ok (.invokespecial 39, 3) := by decide +kernel
theorem d22_191 : decode method_6_code 191 = .ok (.areturn, 1) := by decide +kernel
theorem d22_120 : decode method_6_code 120 = .ok (.bipush 6, 2) := by decide +kernel
theorem d22_122 : decode method_6_code 122 = .ok (.newarray .char, 2) := by decide +kernel
theorem d22_124 : decode method_6_code 124 = .ok (.dup, 1) := by decide +kernel
theorem d22_125 : decode method_6_code 125 = .ok (.iconst 0, 1) := by decide +kernel
theorem d22_126 : decode method_6_code 126 = .ok (.bipush 100, 2) := by decide +kernel
theorem d22_128 : decode method_6_code 128 = .ok (.castore, 1) := by decide +kernel
theorem d22_129 : decode method_6_code 129 = .ok (.dup, 1) := by decide +kernel
theorem d22_130 : decode method_6_code 130 = .ok (.iconst 1, 1) := by decide +kernel
theorem d22_131 : decode method_6_code 131 = .ok (.bipush 117, 2) := by decide +kernel
theorem d22_133 : decode method_6_code 133 = .ok (.castore, 1) := by decide +kernel
theorem d22_134 : decode method_6_code 134 = .ok (.dup, 1) := by decide +kernel
theorem d22_135 : decode method_6_code 135 = .ok (.iconst 2, 1) := by decide +kernel
theorem d22_136 : decode method_6_code 136 = .ok (.bipush 101, 2) := by decide +kernel
theorem d22_138 : decode method_6_code 138 = .ok (.castore, 1) := by decide +kernel
theorem d22_139 : decode method_6_code 139 = .ok (.dup, 1) := by decide +kernel
theorem d22_140 : decode method_6_code 140 = .ok (.iconst 3, 1) := by decide +kernel
theorem d22_141 : decode method_6_code 141 = .ok (.bipush 68, 2) := by decide +kernel
theorem d22_143 : decode method_6_code 143 = .ok (.castore, 1) := by decide +kernel
theorem d22_144 : decode method_6_code 144 = .ok (.dup, 1) := by decide +kernel
theorem d22_145 : decode method_6_code 145 = .ok (.iconst 4, 1) := by decide +kernel
theorem d22_146 : decode method_6_code 146 = .ok (.bipush 97, 2) := by decide +kernel
theorem d22_148 : decode method_6_code 148 = .ok (.castore, 1) := by decide +kernel
theorem d22_149 : decode method_6_code 149 = .ok (.dup, 1) := by decide +kernel
theorem d22_150 : decode method_6_code 150 = .ok (.iconst 5, 1) := by decide +kernel
theorem d22_151 : decode method_6_code 151 = .ok (.bipush 116, 2) := by decide +kernel
theorem d22_153 : decode method_6_code 153 = .ok (.castore, 1) := by decide +kernel
theorem d22_154 : decode method_6_code 154 = .ok (.astore_n 1, 1) := by decide +kernel
theorem d22_155 : decode method_6_code 155 = .ok (.new 14, 3) := by decide +kernel
theorem d22_158 : decode method_6_code 158 = .ok (.dup, 1) := by decide +kernel
theorem d22_159 : decode method_6_code 159 = .ok (.aload_n 1, 1) := by decide +kernel
theorem d22_160 : decode method_6_code 160 = .ok (.invokespecial 39, 3) := by decide +kernel
theorem d22_163 : decode method_6_code 163 = .ok (.areturn, 1) := by decide +kernel
theorem d22_65 : decode method_6_code 65 = .ok (.bipush 7, 2) := by decide +kernel
theorem d22_67 : decode method_6_code 67 = .ok (.newarray .char, 2) := by decide +kernel
theorem d22_69 : decode method_6_code 69 = .ok (.dup, 1) := by decide +kernel
theorem d22_70 : decode method_6_code 70 = .ok (.iconst 0, 1) := by decide +kernel
theorem d22_71 : decode method_6_code 71 = .ok (.bipush 112, 2) := by decide +kernel
theorem d22_73 : decode method_6_code 73 = .ok (.castore, 1) := by decide +kernel
theorem d22_74 : decode method_6_code 74 = .ok (.dup, 1) := by decide +kernel
theorem d22_75 : decode method_6_code 75 = .ok (.iconst 1, 1) := by decide +kernel
theorem d22_76 : decode method_6_code 76 = .ok (.bipush 114, 2) := by decide +kernel
theorem d22_78 : decode method_6_code 78 = .ok (.castore, 1) := by decide +kernel
theorem d22_79 : decode method_6_code 79 = .ok (.dup, 1) := by decide +kernel
theorem d22_80 : decode method_6_code 80 = .ok (.iconst 2, 1) := by decide +kernel
theorem d22_81 : decode method_6_code 81 = .ok (.bipush 105, 2) := by decide +kernel
theorem d22_83 : decode method_6_code 83 = .ok (.castore, 1) := by decide +kernel
theorem d22_84 : decode method_6_code 84 = .ok (.dup, 1) := by decide +kernel
theorem d22_85 : decode method_6_code 85 = .ok (.iconst 3, 1) := by decide +kernel
theorem d22_86 : decode method_6_code 86 = .ok (.bipush 111, 2) := by decide +kernel
theorem d22_88 : decode method_6_code 88 = .ok (.castore, 1) := by decide +kernel
theorem d22_89 : decode method_6_code 89 = .ok (.dup, 1) := by decide +kernel
theorem d22_90 : decode method_6_code 90 = .ok (.iconst 4, 1) := by decide +kernel
theorem d22_91 : decode method_6_code 91 = .ok (.bipush 114, 2) := by decide +kernel
theorem d22_93 : decode method_6_code 93 = .ok (.castore, 1) := by decide +kernel
theorem d22_94 : decode method_6_code 94 = .ok (.dup, 1) := by decide +kernel
theorem d22_95 : decode method_6_code 95 = .ok (.iconst 5, 1) := by decide +kernel
theorem d22_96 : decode method_6_code 96 = .ok (.bipush 105, 2) := by decide +kernel
theorem d22_98 : decode method_6_code 98 = .ok (.castore, 1) := by decide +kernel
theorem d22_99 : decode method_6_code 99 = .ok (.dup, 1) := by decide +kernel
theorem d22_100 : decode method_6_code 100 = .ok (.bipush 6, 2) := by decide +kernel
theorem d22_102 : decode method_6_code 102 = .ok (.bipush 116, 2) := by decide +kernel
theorem d22_104 : decode method_6_code 104 = .ok (.castore, 1) := by decide +kernel
theorem d22_105 : decode method_6_code 105 = .ok (.astore_n 1, 1) := by decide +kernel
theorem d22_106 : decode method_6_code 106 = .ok (.new 14, 3) := by decide +kernel
theorem d22_109 : decode method_6_code 109 = .ok (.dup, 1) := by decide +kernel
theorem d22_110 : decode method_6_code 110 = .ok (.aload_n 1, 1) := by decide +kernel
theorem d22_111 : decode method_6_code 111 = .ok (.invokespecial 39, 3) := by decide +kernel
theorem d22_114 : decode method_6_code 114 = .ok (.areturn, 1) := by decide +kernel
theorem d22_4 : decode method_6_code 4 = .ok (.bipush 8, 2) := by decide +kernel
theorem d22_6 : decode method_6_code 6 = .ok (.newarray .char, 2) := by decide +kernel
theorem d22_8 : decode method_6_code 8 = .ok (.dup, 1) := by decide +kernel
theorem d22_9 : decode method_6_code 9 = .ok (.iconst 0, 1) := by decide +kernel
theorem d22_10 : decode method_6_code 10 = .ok (.bipush 99, 2) := by decide +kernel
theorem d22_12 : decode method_6_code 12 = .ok (.castore, 1) := by decide +kernel
theorem d22_13 : decode method_6_code 13 = .ok (.dup, 1) := by decide +kernel
theorem d22_14 : decode method_6_code 14 = .ok (.iconst 1, 1) := by decide +kernel
theorem d22_15 : decode method_6_code 15 = .ok (.bipush 114, 2) := by decide +kernel
theorem d22_17 : decode method_6_code 17 = .ok (.castore, 1) := by decide +kernel
theorem d22_18 : decode method_6_code 18 = .ok (.dup, 1) := by decide +kernel
theorem d22_19 : decode method_6_code 19 = .ok (.iconst 2, 1) := by decide +kernel
theorem d22_20 : decode method_6_code 20 = .ok (.bipush 101, 2) := by decide +kernel
theorem d22_22 : decode method_6_code 22 = .ok (.castore, 1) := by decide +kernel
theorem d22_23 : decode method_6_code 23 = .ok (.dup, 1) := by decide +kernel
theorem d22_24 : decode method_6_code 24 = .ok (.iconst 3, 1) := by decide +kernel
theorem d22_25 : decode method_6_code 25 = .ok (.bipush 97, 2) := by decide +kernel
theorem d22_27 : decode method_6_code 27 = .ok (.castore, 1) := by decide +kernel
theorem d22_28 : decode method_6_code 28 = .ok (.dup, 1) := by decide +kernel
theorem d22_29 : decode method_6_code 29 = .ok (.iconst 4, 1) := by decide +kernel
theorem d22_30 : decode method_6_code 30 = .ok (.bipush 116, 2) := by decide +kernel
theorem d22_32 : decode method_6_code 32 = .ok (.castore, 1) := by decide +kernel
theorem d22_33 : decode method_6_code 33 = .ok (.dup, 1) := by decide +kernel
theorem d22_34 : decode method_6_code 34 = .ok (.iconst 5, 1) := by decide +kernel
theorem d22_35 : decode method_6_code 35 = .ok (.bipush 101, 2) := by decide +kernel
theorem d22_37 : decode method_6_code 37 = .ok (.castore, 1) := by decide +kernel
theorem d22_38 : decode method_6_code 38 = .ok (.dup, 1) := by decide +kernel
theorem d22_39 : decode method_6_code 39 = .ok (.bipush 6, 2) := by decide +kernel
theorem d22_41 : decode method_6_code 41 = .ok (.bipush 100, 2) := by decide +kernel
theorem d22_43 : decode method_6_code 43 = .ok (.castore, 1) := by decide +kernel
theorem d22_44 : decode method_6_code 44 = .ok (.dup, 1) := by decide +kernel
theorem d22_45 : decode method_6_code 45 = .ok (.bipush 7, 2) := by decide +kernel
theorem d22_47 : decode method_6_code 47 = .ok (.bipush 65, 2) := by decide +kernel
theorem d22_49 : decode method_6_code 49 = .ok (.castore, 1) := by decide +kernel
theorem d22_50 : decode method_6_code 50 = .ok (.astore_n 1, 1) := by decide +kernel
theorem d22_51 : decode method_6_code 51 = .ok (.new 14, 3) := by decide +kernel
theorem d22_54 : decode method_6_code 54 = .ok (.dup, 1) := by decide +kernel
theorem d22_55 : decode method_6_code 55 = .ok (.aload_n 1, 1) := by decide +kernel
theorem d22_56 : decode method_6_code 56 = .ok (.invokespecial 39, 3) := by decide +kernel
theorem d22_59 : decode method_6_code 59 = .ok (.areturn, 1) := by decide +kernel
theorem d23_0 : decode method_7_code 0 = .ok (.iload_n 0, 1) := by decide +kernel
theorem d23_1 : decode method_7_code 1 = .ok (.ifCond .ne 70, 3) := by decide +kernel
theorem d23_71 : decode method_7_code 71 = .ok (.iload_n 0, 1) := by decide +kernel
theorem d23_72 : decode method_7_code 72 = .ok (.iconst 1, 1) := by decide +kernel
theorem d23_73 : decode method_7_code 73 = .ok (.if_icmp .ne 64, 3) := by decide +kernel
theorem d23_137 : decode method_7_code 137 = .ok (.iload_n 0, 1) := by decide +kernel
theorem d23_138 : decode method_7_code 138 = .ok (.iconst 2, 1) := by decide +kernel
theorem d23_139 : decode method_7_code 139 = .ok (.if_icmp .ne 58, 3) := by decide +kernel
theorem d23_197 : decode method_7_code 197 = .ok (.iconst 5, 1) := by decide +kernel
theorem d23_198 : decode method_7_code 198 = .ok (.newarray .char, 2) := by decide +kernel
theorem d23_200 : decode method_7_code 200 = .ok (.dup, 1) := by decide +kernel
theorem d23_201 : decode method_7_code 201 = .ok (.iconst 0, 1) := by decide +kernel
theorem d23_202 : decode method_7_code 202 = .ok (.bipush 110, 2) := by decide +kernel
theorem d23_204 : decode method_7_code 204 = .ok (.castore, 1) := by decide +kernel
theorem d23_205 : decode method_7_code 205 = .ok (.dup, 1) := by decide +kernel
theorem d23_206 : decode method_7_code 206 = .ok (.iconst 1, 1) := by decide +kernel
theorem d23_207 : decode method_7_code 207 = .ok (.bipush 97, 2) := by decide +kernel
theorem d23_209 : decode method_7_code 209 = .ok (.castore, 1) := by decide +kernel
theorem d23_210 : decode method_7_code 210 = .ok (.dup, 1) := by decide +kernel
theorem d23_211 : decode method_7_code 211 = .ok (.iconst 2, 1) := by decide +kernel
theorem d23_212 : decode method_7_code 212 = .ok (.bipush 109, 2) := by decide +kernel
theorem d23_214 : decode method_7_code 214 = .ok (.castore, 1) := by decide +kernel
theorem d23_215 : decode method_7_code 215 = .ok (.dup, 1) := by decide +kernel
theorem d23_216 : decode method_7_code 216 = .ok (.iconst 3, 1) := by decide +kernel
theorem d23_217 : decode method_7_code 217 = .ok (.bipush 101, 2) := by decide +kernel
theorem d23_219 : decode method_7_code 219 = .ok (.castore, 1) := by decide +kernel
theorem d23_220 : decode method_7_code 220 = .ok (.dup, 1) := by decide +kernel
theorem d23_221 : decode method_7_code 221 = .ok (.iconst 4, 1) := by decide +kernel
theorem d23_222 : decode method_7_code 222 = .ok (.iload_n 1, 1) := by decide +kernel
theorem d23_223 : decode method_7_code 223 = .ok (.castore, 1) := by decide +kernel
theorem d23_224 : decode method_7_code 224 = .ok (.astore_n 2, 1) := by decide +kernel
theorem d23_225 : decode method_7_code 225 = .ok (.new 14, 3) := by decide +kernel
theorem d23_228 : decode method_7_code 228 = .ok (.dup, 1) := by decide +kernel
theorem d23_229 : decode method_7_code 229 = .ok (.aload_n 2, 1) := by decide +kernel
theorem d23_230 : decode method_7_code 230 = .ok (.invokespecial 39, 3) := by decide +kernel
theorem d23_233 : decode method_7_code 233 = .ok (.areturn, 1) := by decide +kernel
theorem d23_142 : decode method_7_code 142 = .ok (.bipush 8, 2) := by decide +kernel
theorem d23_144 : decode method_7_code 144 = .ok (.newarray .char, 2) := by decide +kernel
theorem d23_146 : decode method_7_code 146 = .ok (.dup, 1) := by decide +kernel
theorem d23_147 : decode method_7_code 147 = .ok (.iconst 0, 1) := by decide +kernel
theorem d23_148 : decode method_7_code 148 = .ok (.bipush 100, 2) := by decide +kernel
theorem d23_150 : decode method_7_code 150 = .ok (.castore, 1) := by decide +kernel
theorem d23_151 : decode method_7_code 151 = .ok (.dup, 1) := by decide +kernel
theorem d23_152 : decode method_7_code 152 = .ok (.iconst 1, 1) := by decide +kernel
theorem d23_153 : decode method_7_code 153 = .ok (.bipush 117, 2) := by decide +kernel
theorem d23_155 : decode method_7_code 155 = .ok (.castore, 1) := by decide +kernel
theorem d23_156 : decode method_7_code 156 = .ok (.dup, 1) := by decide +kernel
theorem d23_157 : decode method_7_code 157 = .ok (.iconst 2, 1) := by decide +kernel
theorem d23_158 : decode method_7_code 158 = .ok (.bipush 101, 2) := by decide +kernel
theorem d23_160 : decode method_7_code 160 = .ok (.castore, 1) := by decide +kernel
theorem d23_161 : decode method_7_code 161 = .ok (.dup, 1) := by decide +kernel
theorem d23_162 : decode method_7_code 162 = .ok (.iconst 3, 1) := by decide +kernel
theorem d23_163 : decode method_7_code 163 = .ok (.bipush 68, 2) := by decide +kernel
theorem d23_165 : decode method_7_code 165 = .ok (.castore, 1) := by decide +kernel
theorem d23_166 : decode method_7_code 166 = .ok (.dup, 1) := by decide +kernel
theorem d23_167 : decode method_7_code 167 = .ok (.iconst 4, 1) := by decide +kernel
theorem d23_168 : decode method_7_code 168 = .ok (.bipush 97, 2) := by decide +kernel
theorem d23_170 : decode method_7_code 170 = .ok (.castore, 1) := by decide +kernel
theorem d23_171 : decode method_7_code 171 = .ok (.dup, 1) := by decide +kernel
theorem d23_172 : decode method_7_code 172 = .ok (.iconst 5, 1) := by decide +kernel
theorem d23_173 : decode method_7_code 173 = .ok (.bipush 116, 2) := by decide +kernel
theorem d23_175 : decode method_7_code 175 = .ok (.castore, 1) := by decide +kernel
theorem d23_176 : decode method_7_code 176 = .ok (.dup, 1) := by decide +kernel
theorem d23_177 : decode method_7_code 177 = .ok (.bipush 6, 2) := by decide +kernel
theorem d23_179 : decode method_7_code 179 = .ok (.bipush 101, 2) := by decide +kernel
theorem d23_181 : decode method_7_code 181 = .ok (.castore, 1) := by decide +kernel
theorem d23_182 : decode method_7_code 182 = .ok (.dup, 1) := by decide +kernel
theorem d23_183 : decode method_7_code 183 = .ok (.bipush 7, 2) := by decide +kernel
theorem d23_185 : decode method_7_code 185 = .ok (.iload_n 1, 1) := by decide +kernel
theorem d23_186 : decode method_7_code 186 = .ok (.castore, 1) := by decide +kernel
theorem d23_187 : decode method_7_code 187 = .ok (.astore_n 2, 1) := by decide +kernel
theorem d23_188 : decode method_7_code 188 = .ok (.new 14, 3) := by decide +kernel
theorem d23_191 : decode method_7_code 191 = .ok (.dup, 1) := by decide +kernel
theorem d23_192 : decode method_7_code 192 = .ok (.aload_n 2, 1) := by decide +kernel
theorem d23_193 : decode method_7_code 193 = .ok (.invokespecial 39, 3) := by decide +kernel
theorem d23_196 : decode method_7_code 196 = .ok (.areturn, 1) := by decide +kernel
theorem d23_76 : decode method_7_code 76 = .ok (.bipush 9, 2) := by decide +kernel
theorem d23_78 : decode method_7_code 78 = .ok (.newarray .char, 2) := by decide +kernel
theorem d23_80 : decode method_7_code 80 = .ok (.dup, 1) := by decide +kernel
theorem d23_81 : decode method_7_code 81 = .ok (.iconst 0, 1) := by decide +kernel
theorem d23_82 : decode method_7_code 82 = .ok (.bipush 112, 2) := by decide +kernel
theorem d23_84 : decode method_7_code 84 = .ok (.castore, 1) := by decide +kernel
theorem d23_85 : decode method_7_code 85 = .ok (.dup, 1) := by decide +kernel
theorem d23_86 : decode method_7_code 86 = .ok (.iconst 1, 1) := by decide +kernel
theorem d23_87 : decode method_7_code 87 = .ok (.bipush 114, 2) := by decide +kernel
theorem d23_89 : decode method_7_code 89 = .ok (.castore, 1) := by decide +kernel
theorem d23_90 : decode method_7_code 90 = .ok (.dup, 1) := by decide +kernel
theorem d23_91 : decode method_7_code 91 = .ok (.iconst 2, 1) := by decide +kernel
theorem d23_92 : decode method_7_code 92 = .ok (.bipush 105, 2) := by decide +kernel
theorem d23_94 : decode method_7_code 94 = .ok (.castore, 1) := by decide +kernel
theorem d23_95 : decode method_7_code 95 = .ok (.dup, 1) := by decide +kernel
theorem d23_96 : decode method_7_code 96 = .ok (.iconst 3, 1) := by decide +kernel
theorem d23_97 : decode method_7_code 97 = .ok (.bipush 111, 2) := by decide +kernel
theorem d23_99 : decode method_7_code 99 = .ok (.castore, 1) := by decide +kernel
theorem d23_100 : decode method_7_code 100 = .ok (.dup, 1) := by decide +kernel
theorem d23_101 : decode method_7_code 101 = .ok (.iconst 4, 1) := by decide +kernel
theorem d23_102 : decode method_7_code 102 = .ok (.bipush 114, 2) := by decide +kernel
theorem d23_104 : decode method_7_code 104 = .ok (.castore, 1) := by decide +kernel
theorem d23_105 : decode method_7_code 105 = .ok (.dup, 1) := by decide +kernel
theorem d23_106 : decode method_7_code 106 = .ok (.iconst 5, 1) := by decide +kernel
theorem d23_107 : decode method_7_code 107 = .ok (.bipush 105, 2) := by decide +kernel
theorem d23_109 : decode method_7_code 109 = .ok (.castore, 1) := by decide +kernel
theorem d23_110 : decode method_7_code 110 = .ok (.dup, 1) := by decide +kernel
theorem d23_111 : decode method_7_code 111 = .ok (.bipush 6, 2) := by decide +kernel
theorem d23_113 : decode method_7_code 113 = .ok (.bipush 116, 2) := by decide +kernel
theorem d23_115 : decode method_7_code 115 = .ok (.castore, 1) := by decide +kernel
theorem d23_116 : decode method_7_code 116 = .ok (.dup, 1) := by decide +kernel
theorem d23_117 : decode method_7_code 117 = .ok (.bipush 7, 2) := by decide +kernel
theorem d23_119 : decode method_7_code 119 = .ok (.bipush 121, 2) := by decide +kernel
theorem d23_121 : decode method_7_code 121 = .ok (.castore, 1) := by decide +kernel
theorem d23_122 : decode method_7_code 122 = .ok (.dup, 1) := by decide +kernel
theorem d23_123 : decode method_7_code 123 = .ok (.bipush 8, 2) := by decide +kernel
theorem d23_125 : decode method_7_code 125 = .ok (.iload_n 1, 1) := by decide +kernel
theorem d23_126 : decode method_7_code 126 = .ok (.castore, 1) := by decide +kernel
theorem d23_127 : decode method_7_code 127 = .ok (.astore_n 2, 1) := by decide +kernel
theorem d23_128 : decode method_7_code 128 = .ok (.new 14, 3) := by decide +kernel
theorem d23_131 : decode method_7_code 131 = .ok (.dup, 1) := by decide +kernel
theorem d23_132 : decode method_7_code 132 = .ok (.aload_n 2, 1) := by decide +kernel
theorem d23_133 : decode method_7_code 133 = .ok (.invokespecial 39, 3) := by decide +kernel
theorem d23_136 : decode method_7_code 136 = .ok (.areturn, 1) := by decide +kernel
theorem d23_4 : decode method_7_code 4 = .ok (.bipush 10, 2) := by decide +kernel
theorem d23_6 : decode method_7_code 6 = .ok (.newarray .char, 2) := by decide +kernel
theorem d23_8 : decode method_7_code 8 = .ok (.dup, 1) := by decide +kernel
theorem d23_9 : decode method_7_code 9 = .ok (.iconst 0, 1) := by decide +kernel
theorem d23_10 : decode method_7_code 10 = .ok (.bipush 99, 2) := by decide +kernel
theorem d23_12 : decode method_7_code 12 = .ok (.castore, 1) := by decide +kernel
theorem d23_13 : decode method_7_code 13 = .ok (.dup, 1) := by decide +kernel
theorem d23_14 : decode method_7_code 14 = .ok (.iconst 1, 1) := by decide +kernel
theorem d23_15 : decode method_7_code 15 = .ok (.bipush 114, 2) := by decide +kernel
theorem d23_17 : decode method_7_code 17 = .ok (.castore, 1) := by decide +kernel
theorem d23_18 : decode method_7_code 18 = .ok (.dup, 1) := by decide +kernel
theorem d23_19 : decode method_7_code 19 = .ok (.iconst 2, 1) := by decide +kernel
theorem d23_20 : decode method_7_code 20 = .ok (.bipush 101, 2) := by decide +kernel
theorem d23_22 : decode method_7_code 22 = .ok (.castore, 1) := by decide +kernel
theorem d23_23 : decode method_7_code 23 = .ok (.dup, 1) := by decide +kernel
theorem d23_24 : decode method_7_code 24 = .ok (.iconst 3, 1) := by decide +kernel
theorem d23_25 : decode method_7_code 25 = .ok (.bipush 97, 2) := by decide +kernel
theorem d23_27 : decode method_7_code 27 = .ok (.castore, 1) := by decide +kernel
theorem d23_28 : decode method_7_code 28 = .ok (.dup, 1) := by decide +kernel
theorem d23_29 : decode method_7_code 29 = .ok (.iconst 4, 1) := by decide +kernel
theorem d23_30 : decode method_7_code 30 = .ok (.bipush 116, 2) := by decide +kernel
theorem d23_32 : decode method_7_code 32 = .ok (.castore, 1) := by decide +kernel
theorem d23_33 : decode method_7_code 33 = .ok (.dup, 1) := by decide +kernel
theorem d23_34 : decode method_7_code 34 = .ok (.iconst 5, 1) := by decide +kernel
theorem d23_35 : decode method_7_code 35 = .ok (.bipush 101, 2) := by decide +kernel
theorem d23_37 : decode method_7_code 37 = .ok (.castore, 1) := by decide +kernel
theorem d23_38 : decode method_7_code 38 = .ok (.dup, 1) := by decide +kernel
theorem d23_39 : decode method_7_code 39 = .ok (.bipush 6, 2) := by decide +kernel
theorem d23_41 : decode method_7_code 41 = .ok (.bipush 100, 2) := by decide +kernel
theorem d23_43 : decode method_7_code 43 = .ok (.castore, 1) := by decide +kernel
theorem d23_44 : decode method_7_code 44 = .ok (.dup, 1) := by decide +kernel
theorem d23_45 : decode method_7_code 45 = .ok (.bipush 7, 2) := by decide +kernel
theorem d23_47 : decode method_7_code 47 = .ok (.bipush 65, 2) := by decide +kernel
theorem d23_49 : decode method_7_code 49 = .ok (.castore, 1) := by decide +kernel
theorem d23_50 : decode method_7_code 50 = .ok (.dup, 1) := by decide +kernel
theorem d23_51 : decode method_7_code 51 = .ok (.bipush 8, 2) := by decide +kernel
theorem d23_53 : decode method_7_code 53 = .ok (.bipush 116, 2) := by decide +kernel
theorem d23_55 : decode method_7_code 55 = .ok (.castore, 1) := by decide +kernel
theorem d23_56 : decode method_7_code 56 = .ok (.dup, 1) := by decide +kernel
theorem d23_57 : decode method_7_code 57 = .ok (.bipush 9, 2) := by decide +kernel
theorem d23_59 : decode method_7_code 59 = .ok (.iload_n 1, 1) := by decide +kernel
theorem d23_60 : decode method_7_code 60 = .ok (.castore, 1) := by decide +kernel
theorem d23_61 : decode method_7_code 61 = .ok (.astore_n 2, 1) := by decide +kernel
theorem d23_62 : decode method_7_code 62 = .ok (.new 14, 3) := by decide +kernel
theorem d23_65 : decode method_7_code 65 = .ok (.dup, 1) := by decide +kernel
theorem d23_66 : decode method_7_code 66 = .ok (.aload_n 2, 1) := by decide +kernel
theorem d23_67 : decode method_7_code 67 = .ok (.invokespecial 39, 3) := by decide +kernel
theorem d23_70 : decode method_7_code 70 = .ok (.areturn, 1) := by decide +kernel
theorem d24_0 : decode method_4_code 0 = .ok (.iload_n 0, 1) := by decide +kernel
theorem d24_1 : decode method_4_code 1 = .ok (.ifCond .ne 7, 3) := by decide +kernel
theorem d24_8 : decode method_4_code 8 = .ok (.iload_n 0, 1) := by decide +kernel
theorem d24_9 : decode method_4_code 9 = .ok (.iconst 1, 1) := by decide +kernel
theorem d24_10 : decode method_4_code 10 = .ok (.if_icmp .ne 7, 3) := by decide +kernel
theorem d24_17 : decode method_4_code 17 = .ok (.iload_n 0, 1) := by decide +kernel
theorem d24_18 : decode method_4_code 18 = .ok (.iconst 2, 1) := by decide +kernel
theorem d24_19 : decode method_4_code 19 = .ok (.if_icmp .ne 7, 3) := by decide +kernel
theorem d24_26 : decode method_4_code 26 = .ok (.getstatic 75, 3) := by decide +kernel
theorem d24_29 : decode method_4_code 29 = .ok (.areturn, 1) := by decide +kernel
theorem d24_22 : decode method_4_code 22 = .ok (.getstatic 72, 3) := by decide +kernel
theorem d24_25 : decode method_4_code 25 = .ok (.areturn, 1) := by decide +kernel
theorem d24_13 : decode method_4_code 13 = .ok (.getstatic 69, 3) := by decide +kernel
theorem d24_16 : decode method_4_code 16 = .ok (.areturn, 1) := by decide +kernel
theorem d24_4 : decode method_4_code 4 = .ok (.getstatic 65, 3) := by decide +kernel
theorem d24_7 : decode method_4_code 7 = .ok (.areturn, 1) := by decide +kernel
theorem d17_0 : decode prog_24_method_1_code 0 = .ok (.getstatic 16, 3) := by decide +kernel
theorem d17_3 : decode prog_24_method_1_code 3 = .ok (.invokevirtual 20, 3) := by decide +kernel
theorem d17_6 : decode prog_24_method_1_code 6 = .ok (.checkcast 21, 3) := by decide +kernel
theorem d17_9 : decode prog_24_method_1_code 9 = .ok (.areturn, 1) := by decide +kernel
theorem d16_0 : decode prog_24_method_5_code 0 = .ok (.invokestatic 39, 3) := by decide +kernel
theorem d16_3 : decode prog_24_method_5_code 3 = .ok (.astore_n 1, 1) := by decide +kernel
theorem d16_4 : decode prog_24_method_5_code 4 = .ok (.aload_n 1, 1) := by decide +kernel
theorem d16_5 : decode prog_24_method_5_code 5 = .ok (.arraylength, 1) := by decide +kernel
theorem d16_6 : decode prog_24_method_5_code 6 = .ok (.istore_n 2, 1) := by decide +kernel
theorem d16_7 : decode prog_24_method_5_code 7 = .ok (.iconst 0, 1) := by decide +kernel
theorem d16_8 : decode prog_24_method_5_code 8 = .ok (.istore_n 3, 1) := by decide +kernel
theorem d16_9 : decode prog_24_method_5_code 9 = .ok (.iload_n 3, 1) := by decide +kernel
theorem d16_10 : decode prog_24_method_5_code 10 = .ok (.iload_n 2, 1) := by decide +kernel
theorem d16_11 : decode prog_24_method_5_code 11 = .ok (.if_icmp .ge 32, 3) := by decide +kernel
theorem d16_14 : decode prog_24_method_5_code 14 = .ok (.aload_n 1, 1) := by decide +kernel
theorem d16_15 : decode prog_24_method_5_code 15 = .ok (.iload_n 3, 1) := by decide +kernel
theorem d16_16 : decode prog_24_method_5_code 16 = .ok (.aaload, 1) := by decide +kernel
theorem d16_17 : decode prog_24_method_5_code 17 = .ok (.astore 4, 2) := by decide +kernel
theorem d16_19 : decode prog_24_method_5_code 19 = .ok (.aload 4, 2) := by decide +kernel
theorem d16_21 : decode prog_24_method_5_code 21 = .ok (.getfield 35, 3) := by decide +kernel
theorem d16_24 : decode prog_24_method_5_code 24 = .ok (.aload_n 0, 1) := by decide +kernel
theorem d16_25 : decode prog_24_method_5_code 25 = .ok (.invokevirtual 43, 3) := by decide +kernel
theorem d16_28 : decode prog_24_method_5_code 28 = .ok (.ifCond .eq 9, 3) := by decide +kernel
theorem d16_31 : decode prog_24_method_5_code 31 = .ok (.aload 4, 2) := by decide +kernel
theorem d16_33 : decode prog_24_method_5_code 33 = .ok (.invokestatic 49, 3) := by decide +kernel
theorem d16_36 : decode prog_24_method_5_code 36 = .ok (.areturn, 1) := by decide +kernel
theorem d16_37 : decode prog_24_method_5_code 37 = .ok (.iinc 3 1, 3) := by decide +kernel
theorem d16_40 : decode prog_24_method_5_code 40 = .ok (.goto (-31), 3) := by decide +kernel
theorem d16_43 : decode prog_24_method_5_code 43 = .ok (.invokestatic 55, 3) := by decide +kernel
theorem d16_46 : decode prog_24_method_5_code 46 = .ok (.areturn, 1) := by decide +kernel
theorem pd0 : parseMethodDescriptor "(Ljava/lang/Object;)Ljava/lang/Object;" = some ⟨[(.object "java/lang/Object")], some (.object "java/lang/Object")⟩ := by decide +kernel
theorem pd1 : parseMethodDescriptor "(Ljava/lang/Object;)V" = some ⟨[(.object "java/lang/Object")], none⟩ := by decide +kernel
theorem pd2 : parseMethodDescriptor "([CIILjava/lang/Void;)V" = some ⟨[(.array .char), .int, .int, (.object "java/lang/Void")], none⟩ := by decide +kernel
theorem pd3 : parseMethodDescriptor "()[Lcom/example/tasklane/tasklane/engine/TaskSort;" = some ⟨[], some (.array (.object "com/example/tasklane/tasklane/engine/TaskSort"))⟩ := by decide +kernel
theorem pd4 : parseMethodDescriptor "(Ljava/lang/Object;)Ljava/util/Optional;" = some ⟨[(.object "java/lang/Object")], some (.object "java/util/Optional")⟩ := by decide +kernel
theorem pd5 : parseMethodDescriptor "()Ljava/util/Optional;" = some ⟨[], some (.object "java/util/Optional")⟩ := by decide +kernel
theorem pd6 : parseMethodDescriptor "(I)Ljava/lang/String;" = some ⟨[.int], some (.object "java/lang/String")⟩ := by decide +kernel
theorem pd7 : parseMethodDescriptor "([C)V" = some ⟨[(.array .char)], none⟩ := by decide +kernel
theorem pd8 : parseMethodDescriptor "(Ljava/lang/String;)Ljava/util/Optional;" = some ⟨[(.object "java/lang/String")], some (.object "java/util/Optional")⟩ := by decide +kernel
theorem pd9 : parseMethodDescriptor "()Z" = some ⟨[], some .boolean⟩ := by decide +kernel
theorem pd10 : parseMethodDescriptor "(IC)Ljava/lang/String;" = some ⟨[.int, .char], some (.object "java/lang/String")⟩ := by decide +kernel
theorem pd11 : parseMethodDescriptor "(IIC)Ljava/lang/String;" = some ⟨[.int, .int, .char], some (.object "java/lang/String")⟩ := by decide +kernel
theorem pd12 : parseMethodDescriptor "(I)Lcom/example/tasklane/tasklane/engine/TaskSort;" = some ⟨[.int], some (.object "com/example/tasklane/tasklane/engine/TaskSort")⟩ := by decide +kernel
theorem pd13 : parseMethodDescriptor "()Ljava/lang/Object;" = some ⟨[], some (.object "java/lang/Object")⟩ := by decide +kernel
theorem pn0 : plainFor (⟨"java/util/Objects", "requireNonNull", "(Ljava/lang/Object;)Ljava/lang/Object;"⟩ : MethodName) = true := plainFor_of_name (by first | (simp [plainName, overriddenIn]; done) | decide +kernel)
theorem pn1 : plainFor (⟨"java/util/Optional", "<init>", "(Ljava/lang/Object;)V"⟩ : MethodName) = true := plainFor_of_name (by first | (simp [plainName, overriddenIn]; done) | decide +kernel)
theorem pn2 : plainFor (⟨"java/util/Optional", "of", "(Ljava/lang/Object;)Ljava/util/Optional;"⟩ : MethodName) = true := plainFor_of_name (by first | (simp [plainName, overriddenIn]; done) | decide +kernel)
theorem pn3 : plainFor (⟨"java/util/Optional", "empty", "()Ljava/util/Optional;"⟩ : MethodName) = true := plainFor_of_name (by first | (simp [plainName, overriddenIn]; done) | decide +kernel)
theorem pn4 : plainFor (⟨"java/util/Optional", "isPresent", "()Z"⟩ : MethodName) = true := plainFor_of_name (by first | (simp [plainName, overriddenIn]; done) | decide +kernel)
theorem pn5 : plainFor (⟨"java/util/Optional", "get", "()Ljava/lang/Object;"⟩ : MethodName) = true := plainFor_of_name (by first | (simp [plainName, overriddenIn]; done) | decide +kernel)
theorem pn6 : plainFor (⟨"java/lang/String", "<init>", "([CIILjava/lang/Void;)V"⟩ : MethodName) = true := plainFor_of_name (by first | (simp [plainName, overriddenIn]; done) | decide +kernel)
theorem pn7 : plainFor (⟨"java/lang/String", "<init>", "([C)V"⟩ : MethodName) = true := plainFor_of_name (by first | (simp [plainName, overriddenIn]; done) | decide +kernel)
theorem pn8 : plainFor (⟨"com/example/tasklane/tasklane/engine/TaskSortFromIdPinLaw", "name", "(I)Ljava/lang/String;"⟩ : MethodName) = true := plainFor_of_name (by first | (simp [plainName, overriddenIn]; done) | decide +kernel)
theorem pn9 : plainFor (⟨"com/example/tasklane/tasklane/engine/TaskSortFromIdPinLaw", "replaced", "(IIC)Ljava/lang/String;"⟩ : MethodName) = true := plainFor_of_name (by first | (simp [plainName, overriddenIn]; done) | decide +kernel)
theorem pn10 : plainFor (⟨"com/example/tasklane/tasklane/engine/TaskSortFromIdPinLaw", "truncated", "(I)Ljava/lang/String;"⟩ : MethodName) = true := plainFor_of_name (by first | (simp [plainName, overriddenIn]; done) | decide +kernel)
theorem pn11 : plainFor (⟨"com/example/tasklane/tasklane/engine/TaskSortFromIdPinLaw", "extended", "(IC)Ljava/lang/String;"⟩ : MethodName) = true := plainFor_of_name (by first | (simp [plainName, overriddenIn]; done) | decide +kernel)
theorem pn12 : plainFor (⟨"com/example/tasklane/tasklane/engine/TaskSortFromIdPinLaw", "sort", "(I)Lcom/example/tasklane/tasklane/engine/TaskSort;"⟩ : MethodName) = true := plainFor_of_name (by first | (simp [plainName, overriddenIn]; done) | decide +kernel)
theorem pn13 : plainFor (⟨"com/example/tasklane/tasklane/engine/TaskSort", "values", "()[Lcom/example/tasklane/tasklane/engine/TaskSort;"⟩ : MethodName) = true := plainFor_of_name (by first | (simp [plainName, overriddenIn]; done) | decide +kernel)
theorem pn14 : plainFor (⟨"com/example/tasklane/tasklane/engine/TaskSort", "fromId", "(Ljava/lang/String;)Ljava/util/Optional;"⟩ : MethodName) = true := plainFor_of_name (by first | (simp [plainName, overriddenIn]; done) | decide +kernel)
theorem pn15 : plainFor (⟨"com/example/tasklane/tasklane/engine/TaskSortFromIdPinLaw", "law", "(III)Z"⟩ : MethodName) = true := plainFor_of_name (by first | (simp [plainName, overriddenIn]; done) | decide +kernel)
theorem own_atoms0 {Z : State} {a0 : Array Value} (hw : ∀ d ∈ tables_1, d.before a0 Z = true) : ∀ a ∈ Bundle.stringAtoms, a.before a0 Z = true := fun d hd => hw d ((by decide +kernel : ∀ d ∈ Bundle.stringAtoms, d ∈ tables_1) d hd)
theorem own_slots {Z : State} {a0 : Array Value} (hw : ∀ d ∈ tables_1, d.before a0 Z = true) : Jvm.RoadKit.slotOf Z "java/lang/String" "coder" "B" ≠ Jvm.RoadKit.slotOf Z "java/lang/String" "value" "[B" := slot_ne (C := "java/lang/String") (a0 := a0) (Or.inr (hw _ (List.mem_of_getElem? (i := 9) rfl))) (Or.inr (hw _ (List.mem_of_getElem? (i := 8) rfl))) (by decide) (t := .byte) (t' := .array .byte) (by decide) (by decide)
theorem hasL_of {c : Cell} : ∀ (vs : List Value) (i : Nat), (∀ j (hj : j < vs.length), c.slots[i + j]? = some vs[j]) → HasL c i vs
  | [], _, _ => trivial
  | v :: r, i, H => ⟨H 0 (Nat.zero_lt_succ _), hasL_of r (i + 1) fun j hj => by have := H (j + 1) (Nat.succ_lt_succ hj); rw [Nat.add_right_comm]; exact this⟩
theorem arv_start {s : State} {args : Array Value} (hf : Fit s) {t : Term} {a : Addr} {ty : FieldType} {z : Int32} {vs : List Value} {dv : Value} (ev : t.eval args s none [] s = some (.ref a)) (hx : (Cond.arrayOf t ty).value args s none s [] = some true) (hl : (Term.length t).eval args s none [] s = some (.int z)) (hz : ¬ z < 0) (hn : z.toNatClampNeg = vs.length) (he : ∀ i (h : i < vs.length), (Term.elem t (.int (Int32.ofNat i))).eval args s none [] s = some vs[i]) : ∃ k, Arv s s.heap a k ty z vs dv := by
  obtain ⟨cl, A⟩ := Arr.start ev hx
  obtain ⟨a', cell, ha', hat, hv⟩ := Term.length_spec hl
  cases ev.symm.trans ha'
  have e1 := (State.arrayAt?_spec hat).1
  cases A.1.symm.trans e1
  have h31 := SBG.length_lt ev hat hl
  have ez : cl.slots.size.toInt32 = z := by cases hv; rfl
  have S : cl.slots.size = vs.length := by
    rw [← hn, ← ez]
    show _ = (Int32.ofNat cl.slots.size).toInt.toNat
    rw [Int32.toInt_ofNat_small h31]; simp
  exact ⟨_, Arv.start hf A h31 ez hz hn (hasL_of vs 0 fun j hj => by
    have e := he j hj
    rw [SBG.elem_at (ix := .int (Int32.ofNat j)) ev hat (by omega) h31 rfl] at e
    rw [Nat.zero_add]; exact e)⟩
theorem str_start {s : State} {args : Array Value} (hf : Fit s) {t : Term} {a : Addr} {cs : List Int32} (ev : t.eval args s none [] s = some (.ref a)) (hx : (Cond.exactly t "java/lang/String").value args s none s [] = some true) (hc : (Cond.eq (.field t "java/lang/String" "coder" "B") (.int 0)).value args s none s [] = some true) (ha : (Cond.arrayOf (.field t "java/lang/String" "value" "[B") .byte).value args s none s [] = some true)
    (hl : (Cond.eq (.length (.field t "java/lang/String" "value" "[B")) (.int (Int32.ofNat cs.length))).value args s none s [] = some true) (he : ∀ i (h : i < cs.length), (Cond.eq (.elem (.field t "java/lang/String" "value" "[B") (.int (Int32.ofNat i))) (.int cs[i])).value args s none s [] = some true) (hb : ∀ c ∈ cs, ¬ c < 0 ∧ ¬ (255 : Int32) < c ∧ c.toInt8.toInt32 = c) (hn : cs.length ≤ 4000) : Str s s.heap a cs := by
  obtain ⟨b, eb⟩ := arr_v ha
  have hlen := Cond.eq_int (Cond.before_iff.mpr hl) rfl
  have hcod := Cond.eq_int (Cond.before_iff.mpr hc) rfl
  have h31 : cs.length < 2 ^ 31 := by omega
  have hnn : ¬ Int32.ofNat cs.length < 0 := by
    rw [Int32.lt_iff_toInt_lt, Int32.toInt_ofNat_small h31]; have : (0 : Int32).toInt = 0 := rfl; omega
  obtain ⟨k, A⟩ := arv_start (vs := cs.map Value.int) (dv := .int 0) hf eb ha hlen hnn (by
    rw [List.length_map]
    show (Int32.ofNat cs.length).toInt.toNat = _
    rw [Int32.toInt_ofNat_small h31]; simp) fun i h => by
      have h' : i < cs.length := by simpa using h
      rw [List.getElem_map]
      exact Cond.eq_int (Cond.before_iff.mpr (he i h')) rfl
  refine ⟨b, k, 0, _, _, Exa.start ev hx, Fld.start ((fld_at ev).symm.trans eb), Fld.start ((fld_at ev).symm.trans hcod), A, Or.inl ⟨rfl, rfl, ?_, fun c hc => (hb c hc).2.1⟩, up16 fun c hc => ⟨(hb c hc).1, (hb c hc).2.1⟩, hn⟩
  exact List.map_congr_left fun c hc => congrArg Value.int (hb c hc).2.2.symm
theorem own_words {Z : State} {a0 : Array Value} (hw : ∀ d ∈ tables_1, d.before a0 Z = true) : ∀ d ∈ StrChars.Road.words, d.before a0 Z = true := fun d hd => hw d ((by decide +kernel : ∀ d ∈ StrChars.Road.words, d ∈ tables_1) d hd)
theorem own_wordsEq {Z : State} {a0 : Array Value} (hw : ∀ d ∈ tables_1, d.before a0 Z = true) : ∀ d ∈ StrChars.Road.wordsEq, d.before a0 Z = true := fun d hd => hw d ((by decide +kernel : ∀ d ∈ StrChars.Road.wordsEq, d ∈ tables_1) d hd)
theorem own_wordsLen {Z : State} {a0 : Array Value} (hw : ∀ d ∈ tables_1, d.before a0 Z = true) : ∀ d ∈ StrChars.Road.wordsLen, d.before a0 Z = true := fun d hd => hw d ((by decide +kernel : ∀ d ∈ StrChars.Road.wordsLen, d ∈ tables_1) d hd)
theorem own_wordsChN {Z : State} {a0 : Array Value} (hw : ∀ d ∈ tables_1, d.before a0 Z = true) : ∀ d ∈ StrChars.Road.wordsChN, d.before a0 Z = true := fun d hd => hw d ((by decide +kernel : ∀ d ∈ StrChars.Road.wordsChN, d ∈ tables_1) d hd)

def own_nm (k : Int32) : List Int32 := if k = 0 then [(99 : Int32), (114 : Int32), (101 : Int32), (97 : Int32), (116 : Int32), (101 : Int32), (100 : Int32), (65 : Int32), (116 : Int32)] else if k = 1 then [(112 : Int32), (114 : Int32), (105 : Int32), (111 : Int32), (114 : Int32), (105 : Int32), (116 : Int32), (121 : Int32)] else if k = 2 then [(100 : Int32), (117 : Int32), (101 : Int32), (68 : Int32), (97 : Int32), (116 : Int32), (101 : Int32)] else [(110 : Int32), (97 : Int32), (109 : Int32), (101 : Int32)]
def own_tr (k : Int32) : List Int32 := if k = 0 then [(99 : Int32), (114 : Int32), (101 : Int32), (97 : Int32), (116 : Int32), (101 : Int32), (100 : Int32), (65 : Int32)] else if k = 1 then [(112 : Int32), (114 : Int32), (105 : Int32), (111 : Int32), (114 : Int32), (105 : Int32), (116 : Int32)] else if k = 2 then [(100 : Int32), (117 : Int32), (101 : Int32), (68 : Int32), (97 : Int32), (116 : Int32)] else [(110 : Int32), (97 : Int32), (109 : Int32)]
def own_kk (ki_0 ki_1 ki_2 ki_3 : Addr) (k : Int32) : Addr := if k = 0 then ki_0 else if k = 1 then ki_1 else if k = 2 then ki_2 else ki_3
def own_find (ki_0 ki_1 ki_2 ki_3 : Addr) (cs : List Int32) : Value := if own_nm 0 = cs then .ref ki_0 else if own_nm 1 = cs then .ref ki_1 else if own_nm 2 = cs then .ref ki_2 else if own_nm 3 = cs then .ref ki_3 else .null
theorem own_t0 : chs "createdAt" = [(99 : Int32), (114 : Int32), (101 : Int32), (97 : Int32), (116 : Int32), (101 : Int32), (100 : Int32), (65 : Int32), (116 : Int32)] := by decide +kernel
theorem own_t1 : chs "priority" = [(112 : Int32), (114 : Int32), (105 : Int32), (111 : Int32), (114 : Int32), (105 : Int32), (116 : Int32), (121 : Int32)] := by decide +kernel
theorem own_t2 : chs "dueDate" = [(100 : Int32), (117 : Int32), (101 : Int32), (68 : Int32), (97 : Int32), (116 : Int32), (101 : Int32)] := by decide +kernel
theorem own_t3 : chs "name" = [(110 : Int32), (97 : Int32), (109 : Int32), (101 : Int32)] := by decide +kernel
theorem own_n0 : own_nm 0 = [(99 : Int32), (114 : Int32), (101 : Int32), (97 : Int32), (116 : Int32), (101 : Int32), (100 : Int32), (65 : Int32), (116 : Int32)] := by decide
theorem own_n1 : own_nm 1 = [(112 : Int32), (114 : Int32), (105 : Int32), (111 : Int32), (114 : Int32), (105 : Int32), (116 : Int32), (121 : Int32)] := by decide
theorem own_n2 : own_nm 2 = [(100 : Int32), (117 : Int32), (101 : Int32), (68 : Int32), (97 : Int32), (116 : Int32), (101 : Int32)] := by decide
theorem own_n3 : own_nm 3 = [(110 : Int32), (97 : Int32), (109 : Int32), (101 : Int32)] := by decide
theorem own_cases (k : Int32) : (own_nm k = own_nm 0 ∧ own_tr k = own_tr 0 ∧ ∀ a b c d, own_kk a b c d k = a) ∨ (own_nm k = own_nm 1 ∧ own_tr k = own_tr 1 ∧ ∀ a b c d, own_kk a b c d k = b) ∨ (own_nm k = own_nm 2 ∧ own_tr k = own_tr 2 ∧ ∀ a b c d, own_kk a b c d k = c) ∨ (own_nm k = own_nm 3 ∧ own_tr k = own_tr 3 ∧ ∀ a b c d, own_kk a b c d k = d) := by
  by_cases h0 : k = 0
  · subst h0; exact Or.inl ⟨rfl, rfl, fun _ _ _ _ => rfl⟩
  by_cases h1 : k = 1
  · subst h1; exact Or.inr (Or.inl ⟨rfl, rfl, fun _ _ _ _ => rfl⟩)
  by_cases h2 : k = 2
  · subst h2; exact Or.inr (Or.inr (Or.inl ⟨rfl, rfl, fun _ _ _ _ => rfl⟩))
  refine Or.inr (Or.inr (Or.inr ⟨?_, ?_, fun a b c d => ?_⟩))
  · rw [own_n3]; simp only [own_nm, if_neg h0, if_neg h1, if_neg h2]
  · rw [show own_tr 3 = [(110 : Int32), (97 : Int32), (109 : Int32)] from by decide]; simp only [own_tr, if_neg h0, if_neg h1, if_neg h2]
  · simp only [own_kk, if_neg h0, if_neg h1, if_neg h2]
theorem own_fin (x m : Int32) (n : Nat) (hm : m.toBitVec.toNat < n) : ∃ k : Fin n, x &&& m = Int32.ofNat k.val := by
  have h : (x &&& m).toBitVec.toNat < n := by
    simp only [Int32.toBitVec_and, BitVec.toNat_and]
    exact Nat.lt_of_le_of_lt Nat.and_le_right hm
  refine ⟨⟨_, h⟩, ?_⟩
  apply Int32.toBitVec_inj.mp
  show _ = BitVec.ofNat 32 _
  rw [BitVec.ofNat_toNat]; simp
theorem own_c8 (x : Int32) : ¬ ((x &&& (255 : Int32)).toUInt32.toUInt16.toUInt32.toInt32) < 0 ∧ ¬ (255 : Int32) < ((x &&& (255 : Int32)).toUInt32.toUInt16.toUInt32.toInt32) := by
  have t : ∀ k : Fin 256, ¬ ((Int32.ofNat k.val).toUInt32.toUInt16.toUInt32.toInt32) < 0 ∧ ¬ (255 : Int32) < ((Int32.ofNat k.val).toUInt32.toUInt16.toUInt32.toInt32) := by decide +kernel
  obtain ⟨k, e⟩ := own_fin x 255 256 (by decide)
  rw [e]; exact t k
theorem own_nc {c : Int32} (h : ¬ c < 0 ∧ ¬ (255 : Int32) < c) : nar .char c = c := by
  apply Int32.toInt_inj.mp
  have e := c_i2c c
  simp only [Int32.lt_iff_toInt_lt] at h
  have z0 : (0 : Int32).toInt = 0 := rfl
  have z1 : (255 : Int32).toInt = 255 := rfl
  show (c.toUInt32.toUInt16.toUInt32.toInt32).toInt = c.toInt
  omega
theorem own_ix {i n : Nat} (h : i < n) (hn : n ≤ 100) : (¬ Int32.ofNat i < 0 ∧ Int32.ofNat i < Int32.ofNat n) ∧ (Int32.ofNat i).toNatClampNeg = i := by
  have e1 := Int32.toInt_ofNat_small (n := i) (by omega)
  have e2 := Int32.toInt_ofNat_small (n := n) (by omega)
  have z0 : (0 : Int32).toInt = 0 := rfl
  refine ⟨⟨?_, ?_⟩, ?_⟩
  · rw [Int32.lt_iff_toInt_lt]; omega
  · rw [Int32.lt_iff_toInt_lt]; omega
  · show (Int32.ofNat i).toInt.toNat = i
    omega
theorem own_rs {L : List Int32} {i : Nat} {x : Int32} (hL : ∀ c ∈ L, ¬ c < 0 ∧ ¬ (255 : Int32) < c) (hx : ¬ x < 0 ∧ ¬ (255 : Int32) < x) : ∀ c ∈ L.set i x, ¬ c < 0 ∧ ¬ (255 : Int32) < c := fun c hc => by
  rcases List.mem_or_eq_of_mem_set hc with q | rfl
  · exact hL c q
  · exact hx
theorem own_ra {L : List Int32} {x : Int32} (hL : ∀ c ∈ L, ¬ c < 0 ∧ ¬ (255 : Int32) < c) (hx : ¬ x < 0 ∧ ¬ (255 : Int32) < x) : ∀ c ∈ L ++ [x], ¬ c < 0 ∧ ¬ (255 : Int32) < c := fun c hc => by
  rcases List.mem_append.mp hc with q | q
  · exact hL c q
  · rw [List.mem_singleton.mp q]; exact hx
theorem own_nb8 (k : Int32) : ∀ c ∈ own_nm k, ¬ c < 0 ∧ ¬ (255 : Int32) < c := by
  rcases own_cases k with ⟨e, -⟩ | ⟨e, -⟩ | ⟨e, -⟩ | ⟨e, -⟩ <;> rw [e] <;> decide
theorem own_nl (k : Int32) : ∀ c ∈ own_nm k, ¬ (255 : Int32) < c := fun c hc => (own_nb8 k c hc).2
theorem own_nr (k : Int32) (i : Nat) (hi : i < (own_nm k).length) : ¬ (own_nm k).getD i 0 < 0 ∧ ¬ (255 : Int32) < (own_nm k).getD i 0 := by
  have e : (own_nm k).getD i 0 = (own_nm k)[i] := by simp [List.getD_eq_getElem?_getD, hi]
  rw [e]; exact own_nb8 k _ (List.getElem_mem _)
theorem own_nz (k : Int32) : Int32.ofNat (own_nm k).length ≠ 0 := by
  rcases own_cases k with ⟨e, -⟩ | ⟨e, -⟩ | ⟨e, -⟩ | ⟨e, -⟩ <;> rw [e] <;> decide
theorem own_mod (x : Int32) (n : Nat) (h0 : 0 < n) (h1 : n ≤ 100) : ∃ i, i < n ∧ (x &&& (2147483647 : Int32)) % Int32.ofNat n = Int32.ofNat i := by
  have e1 := Int32.toInt_ofNat_small (n := n) (by omega)
  have hx : 0 ≤ (x &&& (2147483647 : Int32)).toInt := by
    have q : (x &&& (2147483647 : Int32)).toBitVec.toNat < 2 ^ 31 := by
      simp only [Int32.toBitVec_and, BitVec.toNat_and]
      exact Nat.lt_of_le_of_lt Nat.and_le_right (by decide)
    show 0 ≤ (x &&& (2147483647 : Int32)).toBitVec.toInt
    rw [BitVec.toInt_eq_toNat_of_lt (by omega)]; omega
  refine ⟨((x &&& (2147483647 : Int32)).toInt % (n : Int)).toNat, ?_, ?_⟩
  · have := Int.emod_lt_of_pos (x &&& (2147483647 : Int32)).toInt (show (0 : Int) < n by omega)
    have := Int.emod_nonneg (x &&& (2147483647 : Int32)).toInt (show (n : Int) ≠ 0 by omega)
    omega
  · apply Int32.toInt_inj.mp
    have b1 := Int.emod_lt_of_pos (x &&& (2147483647 : Int32)).toInt (show (0 : Int) < n by omega)
    have b2 := Int.emod_nonneg (x &&& (2147483647 : Int32)).toInt (show (n : Int) ≠ 0 by omega)
    rw [Int32.toInt_mod, e1, Int32.toInt_ofNat_small (by omega), Int.tmod_eq_emod_of_nonneg hx]
    omega
theorem own_p (k pos : Int32) : ∃ i, i < (own_nm k).length ∧ (pos &&& (2147483647 : Int32)) % Int32.ofNat (own_nm k).length = Int32.ofNat i := by
  apply own_mod
  · rcases own_cases k with ⟨e, -⟩ | ⟨e, -⟩ | ⟨e, -⟩ | ⟨e, -⟩ <;> rw [e] <;> decide
  · rcases own_cases k with ⟨e, -⟩ | ⟨e, -⟩ | ⟨e, -⟩ | ⟨e, -⟩ <;> rw [e] <;> decide
theorem own_fk (ki_0 ki_1 ki_2 ki_3 : Addr) (k : Int32) : own_find ki_0 ki_1 ki_2 ki_3 (own_nm k) = .ref (own_kk ki_0 ki_1 ki_2 ki_3 k) := by
  rcases own_cases k with ⟨e, -, q⟩ | ⟨e, -, q⟩ | ⟨e, -, q⟩ | ⟨e, -, q⟩ <;> rw [e, q, own_find]
  · rw [if_pos rfl]
  · rw [if_neg (by decide), if_pos rfl]
  · rw [if_neg (by decide), if_neg (by decide), if_pos rfl]
  · rw [if_neg (by decide), if_neg (by decide), if_neg (by decide), if_pos rfl]
theorem own_ne {cs ds : List Int32} (h : cs.length ≠ ds.length) : ¬ cs = ds := fun q => h (congrArg List.length q)
theorem own_set {L : List Int32} {i : Nat} {x : Int32} (hi : i < L.length) (h : ¬ x = L.getD i 0) : ¬ L = L.set i x := fun q => h (by
  have z := congrArg (fun l => List.getD l i 0) q
  simp only [List.getD_eq_getElem?_getD, List.getElem?_set_self hi] at z ⊢
  exact z.symm)
theorem own_f0 (ki_0 ki_1 ki_2 ki_3 : Addr) (k : Int32) (i : Nat) (cc : Int32) (hi : i < (own_nm k).length) (h : ¬ cc = (own_nm k).getD i 0) : own_find ki_0 ki_1 ki_2 ki_3 ((own_nm k).set i cc) = .null := by
  have hs := own_set hi h
  rcases own_cases k with ⟨e, -⟩ | ⟨e, -⟩ | ⟨e, -⟩ | ⟨e, -⟩ <;> rw [e] at hs ⊢ <;> rw [own_find]
  · rw [if_neg hs, if_neg (own_ne (by rw [List.length_set]; decide)), if_neg (own_ne (by rw [List.length_set]; decide)), if_neg (own_ne (by rw [List.length_set]; decide))]
  · rw [if_neg (own_ne (by rw [List.length_set]; decide)), if_neg hs, if_neg (own_ne (by rw [List.length_set]; decide)), if_neg (own_ne (by rw [List.length_set]; decide))]
  · rw [if_neg (own_ne (by rw [List.length_set]; decide)), if_neg (own_ne (by rw [List.length_set]; decide)), if_neg hs, if_neg (own_ne (by rw [List.length_set]; decide))]
  · rw [if_neg (own_ne (by rw [List.length_set]; decide)), if_neg (own_ne (by rw [List.length_set]; decide)), if_neg (own_ne (by rw [List.length_set]; decide)), if_neg hs]
theorem own_f1 (ki_0 ki_1 ki_2 ki_3 : Addr) (k : Int32) (i : Nat) (cc : Int32) (hi : i < (own_nm k).length) (h : cc = (own_nm k).getD i 0) : own_find ki_0 ki_1 ki_2 ki_3 ((own_nm k).set i cc) = .ref (own_kk ki_0 ki_1 ki_2 ki_3 k) := by
  have e : (own_nm k).set i cc = own_nm k := by
    rw [h, List.getD_eq_getElem?_getD, List.getElem?_eq_getElem hi]; exact List.set_getElem_self hi
  rw [e]; exact own_fk _ _ _ _ _
theorem own_f2 (ki_0 ki_1 ki_2 ki_3 : Addr) (k : Int32) : own_find ki_0 ki_1 ki_2 ki_3 (own_tr k) = .null := by
  rcases own_cases k with ⟨-, e, -⟩ | ⟨-, e, -⟩ | ⟨-, e, -⟩ | ⟨-, e, -⟩ <;> rw [e, own_find, if_neg (by decide), if_neg (by decide), if_neg (by decide), if_neg (by decide)]
theorem own_hd {cs ds : List Int32} (h : cs.head? ≠ ds.head?) : ¬ cs = ds := fun q => h (congrArg List.head? q)
theorem own_f3 (ki_0 ki_1 ki_2 ki_3 : Addr) (k cc : Int32) : own_find ki_0 ki_1 ki_2 ki_3 (own_nm k ++ [cc]) = .null := by
  have hh : ∀ (j : Int32) (L : List Int32), L ≠ [] → (own_nm j).head? ≠ L.head? → ¬ own_nm j = L ++ [cc] := fun j L h0 h1 => own_hd (by cases L with | nil => exact absurd rfl h0 | cons a b => exact h1)
  have hl : ∀ L : List Int32, ¬ L = L ++ [cc] := fun L => own_ne (by simp)
  rcases own_cases k with ⟨e, -⟩ | ⟨e, -⟩ | ⟨e, -⟩ | ⟨e, -⟩ <;> rw [e, own_find]
  · rw [if_neg (hl _), if_neg (hh _ _ (by decide) (by decide)), if_neg (hh _ _ (by decide) (by decide)), if_neg (hh _ _ (by decide) (by decide))]
  · rw [if_neg (hh _ _ (by decide) (by decide)), if_neg (hl _), if_neg (hh _ _ (by decide) (by decide)), if_neg (hh _ _ (by decide) (by decide))]
  · rw [if_neg (hh _ _ (by decide) (by decide)), if_neg (hh _ _ (by decide) (by decide)), if_neg (hl _), if_neg (hh _ _ (by decide) (by decide))]
  · rw [if_neg (hh _ _ (by decide) (by decide)), if_neg (hh _ _ (by decide) (by decide)), if_neg (hh _ _ (by decide) (by decide)), if_neg (hl _)]
theorem own_f4 (ki_0 ki_1 ki_2 ki_3 : Addr) : own_find ki_0 ki_1 ki_2 ki_3 [] = .null := by
  rw [own_find, if_neg (by decide), if_neg (by decide), if_neg (by decide), if_neg (by decide)]
set_option maxRecDepth 65536 in
set_option maxHeartbeats 40000000 in
theorem c_rnn (l : Launch) (Z : State) (a0 : Array Value) (hw : ∀ d ∈ tables_1, d.before a0 Z = true) (xs : List Addr) (n0 : Nat) (h : Heap) (Z0 : n0 ≤ h.size) (b : Addr) :
    Ctr l Z consts_1 xs n0 (⟨"java/util/Objects", "requireNonNull", "(Ljava/lang/Object;)Ljava/lang/Object;"⟩ : MethodName) jdk_31_method_10_code 1 (some (.object "java/lang/Object")) [] ({ frames := 0, cells := 0, slots := 0, locals := 0 } : Room) #[(.ref b)] h (fun v h' => v = some (.ref b) ∧ h = h') := by
  refine Ctr.body pn0 ?_
  intro p e s m below meth c K
  refine Go.entry (f' := (mkF m 0 #[.val (.ref b)] [])) (by first | (simp [entryFrame, mkF, argsToLocals, Value.category]; done) | rfl) ?_
  refine Go.aloadN K (q := 1) rfl d26_0 rfl rfl ?_
  refine Go.ifnonnullY K (q := 12) (by decide) (by decide) d26_1 ?_
  refine Go.aloadN K (q := 13) rfl d26_12 rfl rfl ?_
  exact Go.retA K rfl rfl d26_13 (by decide) (by decide) (fun _ q => q) (⟨rfl, rfl⟩)
set_option maxRecDepth 65536 in
set_option maxHeartbeats 40000000 in
theorem c_oin (l : Launch) (Z : State) (a0 : Array Value) (hw : ∀ d ∈ tables_1, d.before a0 Z = true) (xs : List Addr) (n0 : Nat) (h : Heap) (Z0 : n0 ≤ h.size) (a b : Addr) (v0 : Value) (hax : a ∈ xs) (ga : n0 ≤ a) (E : Exa Z h a "java/util/Optional") (F : Fld Z h a "java/util/Optional" "value" "Ljava/lang/Object;" v0) :
    Ctr l Z consts_1 xs n0 (⟨"java/util/Optional", "<init>", "(Ljava/lang/Object;)V"⟩ : MethodName) jdk_32_method_2_code 2 none [] ({ frames := 1, cells := 0, slots := 0, locals := 12 } : Room) #[(.ref a), (.ref b)] h (fun v h' => v = none ∧ Keep h h' [a] ∧ Exa Z h' a "java/util/Optional" ∧ Fld Z h' a "java/util/Optional" "value" "Ljava/lang/Object;" (.ref b)) := by
  refine Ctr.body pn1 ?_
  intro p e s m below meth c K
  refine Go.entry (f' := (mkF m 0 #[.val (.ref a), .val (.ref b)] [])) (by first | (simp [entryFrame, mkF, argsToLocals, Value.category]; done) | rfl) ?_
  have K0 := Keep.refl h [a]
  refine Go.aloadN K (q := 1) rfl d27_0 rfl rfl ?_
  refine Go.initO K (q := 4) rfl (hw _ (List.mem_of_getElem? (i := 146) rfl)) (hw _ (List.mem_of_getElem? (i := 61) rfl)) (hw _ (List.mem_of_getElem? (i := 62) rfl)) rfl d27_1 (by decide) (W := 0) (Nat.le_of_eq rfl) (by decide) ?_
  refine Go.aloadN K (q := 5) rfl d27_4 rfl rfl ?_
  refine Go.aloadN K (q := 6) rfl d27_5 rfl rfl ?_
  refine Go.putF K (q := 9) rfl (hw _ (List.mem_of_getElem? (i := 116) rfl)) Via.refl F E (Or.inr ⟨(hw _ (List.mem_of_getElem? (i := 117) rfl)), rfl, rfl⟩) (hw _ (List.mem_of_getElem? (i := 137) rfl)) (ty := (.object "java/lang/Object")) (by decide) rfl rfl d27_6 ga hax ?_
  intro h1 W2 F E
  have K0 := K0.wr W2 (Or.inl List.mem_cons_self)
  exact Go.retV K d27_9 (by decide) (by decide) (fun _ q => q) (⟨rfl, K0, E, F⟩)
set_option maxRecDepth 65536 in
set_option maxHeartbeats 40000000 in
theorem c_oof (l : Launch) (Z : State) (a0 : Array Value) (hw : ∀ d ∈ tables_1, d.before a0 Z = true) (xs : List Addr) (n0 : Nat) (h : Heap) (Z0 : n0 ≤ h.size) (b : Addr) :
    Ctr l Z consts_1 xs n0 (⟨"java/util/Optional", "of", "(Ljava/lang/Object;)Ljava/util/Optional;"⟩ : MethodName) jdk_32_method_3_code 1 (some (.object "java/util/Optional")) [] ({ frames := 2, cells := 1, slots := 1, locals := 26 } : Room) #[(.ref b)] h (fun v h' => ∃ r, v = some (.ref r) ∧ Ext h h' ∧ Exa Z h' r "java/util/Optional" ∧ Fld Z h' r "java/util/Optional" "value" "Ljava/lang/Object;" (.ref b)) := by
  refine Ctr.body pn2 ?_
  intro p e s m below meth c K
  refine Go.entry (f' := (mkF m 0 #[.val (.ref b)] [])) (by first | (simp [entryFrame, mkF, argsToLocals, Value.category]; done) | rfl) ?_
  have E0 := Ext.refl h
  refine Go.new K (q := 3) rfl (hw _ (List.mem_of_getElem? (i := 136) rfl)) (hw _ (List.mem_of_getElem? (i := 137) rfl)) (hw _ (List.mem_of_getElem? (i := 108) rfl)) d25_0 (cells' := 1) (slots' := 1) rfl rfl (by decide) (by decide) ?_
  intro h1 oa g_oa N_oa X_oa D_oa
  have ge_E0_oa : h.size ≤ oa := Nat.le_trans E0.1 (Nat.le_of_eq g_oa.symm)
  have E0 := Ext.trans E0 N_oa
  have F0 : Fld Z h1 oa "java/util/Optional" "value" "Ljava/lang/Object;" .null := D_oa (Or.inr (hw _ (List.mem_of_getElem? (i := 117) rfl))) (ty := .object "java/lang/Object") (by decide)
  have n_oa : n0 ≤ oa := Nat.le_trans Z0 ge_E0_oa
  refine Go.dup K (q := 4) rfl d25_3 rfl ?_
  refine Go.aloadN K (q := 5) rfl d25_4 rfl rfl ?_
  refine Go.cS K (q := 8) rfl (y := (⟨"java/util/Objects", "requireNonNull", "(Ljava/lang/Object;)Ljava/lang/Object;"⟩ : MethodName)) (c_rnn l Z a0 hw (oa :: xs) n0 h1 (Nat.le_trans Z0 E0.1) b) (hw _ (List.mem_of_getElem? (i := 138) rfl)) (hw _ (List.mem_of_getElem? (i := 139) rfl)) (hw _ (List.mem_of_getElem? (i := 140) rfl)) (hw _ (List.mem_of_getElem? (i := 141) rfl)) (by decide) pd0 (argsL := [(.ref b)]) (rest := [(.ref oa), (.ref oa)]) rfl rfl rfl rfl (W := 2) (Nat.le_of_eq rfl) (by decide) (by decide) d25_5 (cells' := 1) (slots' := 1) rfl rfl (by decide) (by decide) ?_
  intro r3 h2 hQ sz_h2
  obtain ⟨rfl, rfl⟩ := hQ
  show Go p l e _ s m _ below meth c _ _ _ _ _ _ _ _ _ h1 1 1 (mkF m 8 #[.val (.ref b)] [(.ref b), (.ref oa), (.ref oa)])
  refine Go.cI K (q := 11) rfl (y := (⟨"java/util/Optional", "<init>", "(Ljava/lang/Object;)V"⟩ : MethodName)) (c_oin l Z a0 hw (oa :: xs) n0 h1 (Nat.le_trans Z0 E0.1) oa b _ List.mem_cons_self n_oa X_oa F0) rfl (hw _ (List.mem_of_getElem? (i := 142) rfl)) (hw _ (List.mem_of_getElem? (i := 143) rfl)) (hw _ (List.mem_of_getElem? (i := 108) rfl)) (hw _ (List.mem_of_getElem? (i := 145) rfl)) (by decide) (a := oa) pd1 (argsL := [(.ref b)]) (rest := [(.ref oa)]) rfl rfl rfl rfl (W := 1) (Nat.le_of_eq rfl) (by decide) (by decide) d25_8 (cells' := 1) (slots' := 1) rfl rfl (by decide) (by decide) ?_
  intro r5 h4 hQ sz_h4
  obtain ⟨rfl, KK, X2, G0⟩ := hQ
  have E0 := Ext.keep E0 KK (allS ge_E0_oa all0)
  show Go p l e _ s m _ below meth c _ _ _ _ _ _ _ _ _ h4 1 1 (mkF m 11 #[.val (.ref b)] [(.ref oa)])
  exact Go.retA K rfl rfl d25_11 (by decide) (by decide) (fun _ q => (List.mem_cons_of_mem _ q)) (⟨oa, rfl, E0, X2, G0⟩)
set_option maxRecDepth 65536 in
set_option maxHeartbeats 40000000 in
theorem c_oem (l : Launch) (Z : State) (a0 : Array Value) (hw : ∀ d ∈ tables_1, d.before a0 Z = true) (xs : List Addr) (n0 : Nat) (h : Heap) (Z0 : n0 ≤ h.size) (oe : Addr) (SE : Sta Z h "java/util/Optional" "EMPTY" "Ljava/util/Optional;" (.ref oe)) :
    Ctr l Z consts_1 xs n0 (⟨"java/util/Optional", "empty", "()Ljava/util/Optional;"⟩ : MethodName) jdk_32_method_1_code 1 (some (.object "java/util/Optional")) [] ({ frames := 0, cells := 0, slots := 0, locals := 0 } : Room) #[] h (fun v h' => v = some (.ref oe) ∧ h = h') := by
  refine Ctr.body pn3 ?_
  intro p e s m below meth c K
  refine Go.entry (f' := (mkF m 0 #[.unset] [])) (by first | (simp [entryFrame, mkF, argsToLocals, Value.category]; done) | rfl) ?_
  refine Go.getS K (q := 3) rfl (hw _ (List.mem_of_getElem? (i := 110) rfl)) Via.refl (SE) d20_0 ?_
  refine Go.astoreN K (q := 4) rfl (L' := #[.val (.ref oe)]) d20_3 rfl rfl ?_
  refine Go.aloadN K (q := 5) rfl d20_4 rfl rfl ?_
  exact Go.retA K rfl rfl d20_5 (by decide) (by decide) (fun _ q => q) (⟨rfl, rfl⟩)
set_option maxRecDepth 65536 in
set_option maxHeartbeats 40000000 in
theorem c_oip0 (l : Launch) (Z : State) (a0 : Array Value) (hw : ∀ d ∈ tables_1, d.before a0 Z = true) (xs : List Addr) (n0 : Nat) (h : Heap) (Z0 : n0 ≤ h.size) (a : Addr) (F : Fld Z h a "java/util/Optional" "value" "Ljava/lang/Object;" .null) :
    Ctr l Z consts_1 xs n0 (⟨"java/util/Optional", "isPresent", "()Z"⟩ : MethodName) jdk_32_method_6_code 1 (some .boolean) [] ({ frames := 0, cells := 0, slots := 0, locals := 0 } : Room) #[(.ref a)] h (fun v h' => v = some (.int 0) ∧ h = h') := by
  refine Ctr.body pn4 ?_
  intro p e s m below meth c K
  refine Go.entry (f' := (mkF m 0 #[.val (.ref a)] [])) (by first | (simp [entryFrame, mkF, argsToLocals, Value.category]; done) | rfl) ?_
  refine Go.aloadN K (q := 1) rfl d21_0 rfl rfl ?_
  refine Go.getF K (q := 4) rfl (hw _ (List.mem_of_getElem? (i := 116) rfl)) Via.refl (F) d21_1 ?_
  refine Go.ifnullY K (q := 11) (by decide) (by decide) d21_4 ?_
  refine Go.iconst K (q := 12) rfl (v := (0 : Int32)) (by decide) d21_11 ?_
  exact Go.retN K (by simp) d21_12 (by decide) (by decide) (fun _ q => q) (⟨rfl, rfl⟩)
set_option maxRecDepth 65536 in
set_option maxHeartbeats 40000000 in
theorem c_oip1 (l : Launch) (Z : State) (a0 : Array Value) (hw : ∀ d ∈ tables_1, d.before a0 Z = true) (xs : List Addr) (n0 : Nat) (h : Heap) (Z0 : n0 ≤ h.size) (a b : Addr) (F : Fld Z h a "java/util/Optional" "value" "Ljava/lang/Object;" (.ref b)) :
    Ctr l Z consts_1 xs n0 (⟨"java/util/Optional", "isPresent", "()Z"⟩ : MethodName) jdk_32_method_6_code 1 (some .boolean) [] ({ frames := 0, cells := 0, slots := 0, locals := 0 } : Room) #[(.ref a)] h (fun v h' => v = some (.int 1) ∧ h = h') := by
  refine Ctr.body pn4 ?_
  intro p e s m below meth c K
  refine Go.entry (f' := (mkF m 0 #[.val (.ref a)] [])) (by first | (simp [entryFrame, mkF, argsToLocals, Value.category]; done) | rfl) ?_
  refine Go.aloadN K (q := 1) rfl d21_0 rfl rfl ?_
  refine Go.getF K (q := 4) rfl (hw _ (List.mem_of_getElem? (i := 116) rfl)) Via.refl (F) d21_1 ?_
  refine Go.ifnullN K (q := 7) rfl d21_4 ?_
  refine Go.iconst K (q := 8) rfl (v := (1 : Int32)) (by decide) d21_7 ?_
  refine Go.goto K (q := 12) (by decide) (by decide) d21_8 ?_
  exact Go.retN K (by simp) d21_12 (by decide) (by decide) (fun _ q => q) (⟨rfl, rfl⟩)
set_option maxRecDepth 65536 in
set_option maxHeartbeats 40000000 in
theorem c_og (l : Launch) (Z : State) (a0 : Array Value) (hw : ∀ d ∈ tables_1, d.before a0 Z = true) (xs : List Addr) (n0 : Nat) (h : Heap) (Z0 : n0 ≤ h.size) (a b : Addr) (F : Fld Z h a "java/util/Optional" "value" "Ljava/lang/Object;" (.ref b)) :
    Ctr l Z consts_1 xs n0 (⟨"java/util/Optional", "get", "()Ljava/lang/Object;"⟩ : MethodName) jdk_32_method_5_code 1 (some (.object "java/lang/Object")) [] ({ frames := 0, cells := 0, slots := 0, locals := 0 } : Room) #[(.ref a)] h (fun v h' => v = some (.ref b) ∧ h = h') := by
  refine Ctr.body pn5 ?_
  intro p e s m below meth c K
  refine Go.entry (f' := (mkF m 0 #[.val (.ref a)] [])) (by first | (simp [entryFrame, mkF, argsToLocals, Value.category]; done) | rfl) ?_
  refine Go.aloadN K (q := 1) rfl d28_0 rfl rfl ?_
  refine Go.getF K (q := 4) rfl (hw _ (List.mem_of_getElem? (i := 116) rfl)) Via.refl (F) d28_1 ?_
  refine Go.ifnonnullY K (q := 17) (by decide) (by decide) d28_4 ?_
  refine Go.aloadN K (q := 18) rfl d28_17 rfl rfl ?_
  refine Go.getF K (q := 21) rfl (hw _ (List.mem_of_getElem? (i := 116) rfl)) Via.refl (F) d28_18 ?_
  exact Go.retA K rfl rfl d28_21 (by decide) (by decide) (fun _ q => q) (⟨rfl, rfl⟩)
set_option maxRecDepth 65536 in
set_option maxHeartbeats 40000000 in
theorem c_e4 (l : Launch) (Z : State) (a0 : Array Value) (hw : ∀ d ∈ tables_1, d.before a0 Z = true) (xs : List Addr) (n0 : Nat) (h : Heap) (Z0 : n0 ≤ h.size) (a b : Addr) (v0 c0 : Value) (hax : a ∈ xs) (ga : n0 ≤ a) (E : Exa Z h a "java/lang/String") (Fv : Fld Z h a "java/lang/String" "value" "[B" v0) (Fc : Fld Z h a "java/lang/String" "coder" "B" c0) :
    Ctr l Z consts_1 xs n0 (⟨"java/lang/String", "<init>", "([CIILjava/lang/Void;)V"⟩ : MethodName) jdk_42_method_149_code 6 none [] ({ frames := 1, cells := 4, slots := 8, locals := 12 } : Room) #[(.ref a), (.ref b), (.int (0 : Int32)), (.int (0 : Int32)), .null] h (fun v h' => v = none ∧ Keep h h' [a] ∧ Str Z h' a []) := by
  refine Ctr.body pn6 ?_
  intro p e s m below meth c K
  have own_atoms := own_atoms0 hw
  refine Go.entry (f' := (mkF m 0 #[.val (.ref a), .val (.ref b), .val (.int (0 : Int32)), .val (.int (0 : Int32)), .val .null, .unset] [])) (by first | (simp [entryFrame, mkF, argsToLocals, Value.category]; done) | rfl) ?_
  have K0 := Keep.refl h [a]
  refine Go.aloadN K (q := 1) rfl d11_0 rfl rfl ?_
  refine Go.initO K (q := 4) rfl (hw _ (List.mem_of_getElem? (i := 60) rfl)) (hw _ (List.mem_of_getElem? (i := 61) rfl)) (hw _ (List.mem_of_getElem? (i := 62) rfl)) rfl d11_1 (by decide) (W := 0) (Nat.le_of_eq rfl) (by decide) ?_
  refine Go.iloadN K (q := 5) rfl d11_4 rfl ?_
  refine Go.ifN K (q := 8) rfl d11_5 (show (0 : Int32) = (0 : Int32) from rfl) ?_
  refine Go.aloadN K (q := 9) rfl d11_8 rfl rfl ?_
  refine Go.ldcS K (q := 11) rfl (text := "") (by decide) (hw _ (List.mem_of_getElem? (i := 123) rfl)) own_atoms (by decide) d11_9 (n := 0) (by decide) (by decide) (cells' := 2) (slots' := 4) rfl rfl (by decide) (by decide) ?_
  intro h1 s2 N_s2 T_s2
  have K0 := K0.ext N_s2
  have E := E.ext N_s2
  have Fv := Fv.ext N_s2
  have Fc := Fc.ext N_s2
  obtain ⟨us1, hu1, t1, kb1, L1_1, L2_1, L3_1, L4_1, L5_1, L6_1⟩ := T_s2
  refine Go.getF K (q := 14) rfl (hw _ (List.mem_of_getElem? (i := 17) rfl)) Via.refl (L2_1) d11_11 ?_
  have S1 : Str Z h1 s2 (chs "") := Str.lit (by decide) (by decide) ⟨us1, hu1, t1, kb1, L1_1, L2_1, L3_1, L4_1, L5_1, L6_1⟩
  refine Go.putF K (q := 17) rfl (hw _ (List.mem_of_getElem? (i := 17) rfl)) Via.refl Fv E (Or.inr ⟨(hw _ (List.mem_of_getElem? (i := 8) rfl)), rfl, rfl⟩) (hw _ (List.mem_of_getElem? (i := 6) rfl)) (ty := (.array .byte)) (by decide) rfl rfl d11_14 ga hax ?_
  intro h3 W4 Fv E
  have Fc := Fc.other W4 (Or.inr (own_slots hw))
  have K0 := K0.wr W4 (Or.inl List.mem_cons_self)
  have A4 := L4_1.other W4 (fun q => L6_1 (q ▸ hax))
  refine Go.aloadN K (q := 18) rfl d11_17 rfl rfl ?_
  refine Go.ldcS K (q := 20) rfl (text := "") (by decide) (hw _ (List.mem_of_getElem? (i := 123) rfl)) own_atoms (by decide) d11_18 (n := 0) (by decide) (by decide) (cells' := 4) (slots' := 8) rfl rfl (by decide) (by decide) ?_
  intro h5 s6 N_s6 T_s6
  have K0 := K0.ext N_s6
  have E := E.ext N_s6
  have Fv := Fv.ext N_s6
  have Fc := Fc.ext N_s6
  obtain ⟨us2, hu2, t2, kb2, L1_2, L2_2, L3_2, L4_2, L5_2, L6_2⟩ := T_s6
  have A4 := A4.ext N_s6
  refine Go.getF K (q := 23) rfl (hw _ (List.mem_of_getElem? (i := 24) rfl)) Via.refl (L3_2) d11_20 ?_
  refine Go.putF K (q := 26) rfl (hw _ (List.mem_of_getElem? (i := 24) rfl)) Via.refl Fc E (Or.inr ⟨(hw _ (List.mem_of_getElem? (i := 9) rfl)), rfl, rfl⟩) (hw _ (List.mem_of_getElem? (i := 6) rfl)) (ty := .byte) (by decide) rfl rfl d11_23 ga hax ?_
  intro h7 W8 Fc E
  have Fv := Fv.other W8 (Or.inr (Ne.symm (own_slots hw)))
  have K0 := K0.wr W8 (Or.inl List.mem_cons_self)
  have A4 := A4.other W8 (fun q => L6_1 (q ▸ hax))
  have us0 : us1.size = 0 := by rw [← Array.length_toList, Jvm.ClassFile.units_of_text hu1 (by decide)]; rfl
  have ut0 : us1.toList = [] := by rw [Jvm.ClassFile.units_of_text hu1 (by decide)]; rfl
  rw [us0, ut0] at A4
  exact Go.retV K d11_26 (by decide) (by decide) (fun _ q => q) (⟨rfl, K0, t1, kb1, 0, 0, [], E, Fv, Fc, A4, Or.inl ⟨rfl, rfl, rfl, by intro c hc; cases hc⟩, (by intro c hc; cases hc), by decide⟩)
set_option maxRecDepth 65536 in
set_option maxHeartbeats 40000000 in
theorem c_e1 (l : Launch) (Z : State) (a0 : Array Value) (hw : ∀ d ∈ tables_1, d.before a0 Z = true) (xs : List Addr) (n0 : Nat) (h : Heap) (Z0 : n0 ≤ h.size) (a b : Addr) (kb : ClassId) (dv v0 c0 : Value) (hax : a ∈ xs) (ga : n0 ≤ a) (E : Exa Z h a "java/lang/String") (Fv : Fld Z h a "java/lang/String" "value" "[B" v0) (Fc : Fld Z h a "java/lang/String" "coder" "B" c0) (V : Arv Z h b kb .char (0 : Int32) [] dv) :
    Ctr l Z consts_1 xs n0 (⟨"java/lang/String", "<init>", "([C)V"⟩ : MethodName) jdk_42_method_3_code 2 none [] ({ frames := 2, cells := 4, slots := 8, locals := 29 } : Room) #[(.ref a), (.ref b)] h (fun v h' => v = none ∧ Keep h h' [a] ∧ Str Z h' a []) := by
  refine Ctr.body pn7 ?_
  intro p e s m below meth c K
  refine Go.entry (f' := (mkF m 0 #[.val (.ref a), .val (.ref b)] [])) (by first | (simp [entryFrame, mkF, argsToLocals, Value.category]; done) | rfl) ?_
  refine Go.aloadN K (q := 1) rfl d10_0 rfl rfl ?_
  refine Go.aloadN K (q := 2) rfl d10_1 rfl rfl ?_
  refine Go.iconst K (q := 3) rfl (v := (0 : Int32)) (by decide) d10_2 ?_
  refine Go.aloadN K (q := 4) rfl d10_3 rfl rfl ?_
  refine Go.alen K (q := 5) rfl V d10_4 ?_
  refine Go.aconstNull K (q := 6) rfl d10_5 ?_
  show Go p l e _ s m _ below meth c _ _ _ _ _ _ _ _ _ h 0 0 (mkF m 6 #[.val (.ref a), .val (.ref b)] [.null, (.int (0 : Int32)), (.int (0 : Int32)), (.ref b), (.ref a)])
  refine Go.cI K (q := 9) rfl (y := (⟨"java/lang/String", "<init>", "([CIILjava/lang/Void;)V"⟩ : MethodName)) (c_e4 l Z a0 hw xs n0 h Z0 a b _ _ hax ga E Fv Fc) rfl (hw _ (List.mem_of_getElem? (i := 56) rfl)) (hw _ (List.mem_of_getElem? (i := 57) rfl)) (hw _ (List.mem_of_getElem? (i := 5) rfl)) (hw _ (List.mem_of_getElem? (i := 59) rfl)) (by decide) (a := a) pd2 (argsL := [(.ref b), (.int (0 : Int32)), (.int (0 : Int32)), .null]) (rest := []) rfl rfl rfl rfl (W := 0) (Nat.le_of_eq rfl) (by decide) (by decide) d10_6 (cells' := 4) (slots' := 8) rfl rfl (by decide) (by decide) ?_
  intro r2 h1 hQ sz_h1
  obtain ⟨rfl, K0, S0⟩ := hQ
  show Go p l e _ s m _ below meth c _ _ _ _ _ _ _ _ _ h1 4 8 (mkF m 9 #[.val (.ref a), .val (.ref b)] [])
  exact Go.retV K d10_9 (by decide) (by decide) (fun _ q => q) (⟨rfl, K0, S0⟩)
set_option maxRecDepth 65536 in
set_option maxHeartbeats 40000000 in
theorem c_name (l : Launch) (Z : State) (a0 : Array Value) (hw : ∀ d ∈ tables_1, d.before a0 Z = true) (xs : List Addr) (n0 : Nat) (h : Heap) (Z0 : n0 ≤ h.size) (k : Int32) :
    Ctr l Z consts_1 xs n0 (⟨"com/example/tasklane/tasklane/engine/TaskSortFromIdPinLaw", "name", "(I)Ljava/lang/String;"⟩ : MethodName) method_3_code 1 (some (.object "java/lang/String")) [] ({ frames := 0, cells := 2, slots := 40, locals := 0 } : Room) #[(.int k)] h (fun v h' => ∃ a, v = some (.ref a) ∧ Ext h h' ∧ Str Z h' a (own_nm k)) := by
  refine Ctr.body pn8 ?_
  intro p e s m below meth c K
  have own_atoms := own_atoms0 hw
  refine Go.entry (f' := (mkF m 0 #[.val (.int k)] [])) (by first | (simp [entryFrame, mkF, argsToLocals, Value.category]; done) | rfl) ?_
  have E0 := Ext.refl h
  refine Go.iloadN K (q := 1) rfl d1_0 rfl ?_
  refine Go.ifc K (q := 7) (q' := 4) (by decide) (by decide) rfl d1_1 (fun (g0 : ¬ k = (0 : Int32)) => ?_) (fun (g0 : k = (0 : Int32)) => ?_)
  · skip
    refine Go.iloadN K (q := 8) rfl d1_7 rfl ?_
    refine Go.iconst K (q := 9) rfl (v := (1 : Int32)) (by decide) d1_8 ?_
    refine Go.icmp K (q := 15) (q' := 12) (by decide) (by decide) rfl d1_9 (fun (g1 : ¬ k = (1 : Int32)) => ?_) (fun (g1 : k = (1 : Int32)) => ?_)
    · skip
      refine Go.iloadN K (q := 16) rfl d1_15 rfl ?_
      refine Go.iconst K (q := 17) rfl (v := (2 : Int32)) (by decide) d1_16 ?_
      refine Go.icmp K (q := 23) (q' := 20) (by decide) (by decide) rfl d1_17 (fun (g2 : ¬ k = (2 : Int32)) => ?_) (fun (g2 : k = (2 : Int32)) => ?_)
      · skip
        refine Go.ldcS K (q := 25) rfl (text := "name") (by decide) (hw _ (List.mem_of_getElem? (i := 122) rfl)) own_atoms (by decide) d1_23 (n := 16) (by decide) (by decide) (cells' := 2) (slots' := 20) rfl rfl (by decide) (by decide) ?_
        intro h1 s2 N_s2 T_s2
        have E0 := Ext.trans E0 N_s2
        have S0 : Str Z h1 s2 (chs "name") := Str.lit (by decide) (by decide) T_s2
        exact Go.retA K rfl rfl d1_25 (by decide) (by decide) (fun _ q => q) (⟨s2, rfl, E0, by rw [own_nm, if_neg g0, if_neg g1, if_neg g2, ← own_t3]; exact S0⟩)
      · skip
        refine Go.ldcS K (q := 22) rfl (text := "dueDate") (by decide) (hw _ (List.mem_of_getElem? (i := 127) rfl)) own_atoms (by decide) d1_20 (n := 28) (by decide) (by decide) (cells' := 2) (slots' := 32) rfl rfl (by decide) (by decide) ?_
        intro h3 s4 N_s4 T_s4
        have E0 := Ext.trans E0 N_s4
        have S0 : Str Z h3 s4 (chs "dueDate") := Str.lit (by decide) (by decide) T_s4
        exact Go.retA K rfl rfl d1_22 (by decide) (by decide) (fun _ q => q) (⟨s4, rfl, E0, by rw [own_nm, if_neg g0, if_neg g1, if_pos g2, ← own_t2]; exact S0⟩)
    · skip
      refine Go.ldcS K (q := 14) rfl (text := "priority") (by decide) (hw _ (List.mem_of_getElem? (i := 118) rfl)) own_atoms (by decide) d1_12 (n := 32) (by decide) (by decide) (cells' := 2) (slots' := 36) rfl rfl (by decide) (by decide) ?_
      intro h5 s6 N_s6 T_s6
      have E0 := Ext.trans E0 N_s6
      have S0 : Str Z h5 s6 (chs "priority") := Str.lit (by decide) (by decide) T_s6
      exact Go.retA K rfl rfl d1_14 (by decide) (by decide) (fun _ q => q) (⟨s6, rfl, E0, by rw [own_nm, if_neg g0, if_pos g1, ← own_t1]; exact S0⟩)
  · skip
    refine Go.ldcS K (q := 6) rfl (text := "createdAt") (by decide) (hw _ (List.mem_of_getElem? (i := 4) rfl)) own_atoms (by decide) d1_4 (n := 36) (by decide) (by decide) (cells' := 2) (slots' := 40) rfl rfl (by decide) (by decide) ?_
    intro h7 s8 N_s8 T_s8
    have E0 := Ext.trans E0 N_s8
    have S0 : Str Z h7 s8 (chs "createdAt") := Str.lit (by decide) (by decide) T_s8
    exact Go.retA K rfl rfl d1_6 (by decide) (by decide) (fun _ q => q) (⟨s8, rfl, E0, by rw [own_nm, if_pos g0, ← own_t0]; exact S0⟩)
set_option maxRecDepth 65536 in
set_option maxHeartbeats 40000000 in
theorem c_repl (l : Launch) (Z : State) (a0 : Array Value) (hw : ∀ d ∈ tables_1, d.before a0 Z = true) (xs : List Addr) (n0 : Nat) (h : Heap) (Z0 : n0 ≤ h.size) (k cc : Int32) (i : Nat) (hi : i < (own_nm k).length) (hcc : ¬ cc < 0 ∧ ¬ (255 : Int32) < cc) (z : Int32) (Sa : Sta Z h "java/lang/String" "COMPACT_STRINGS" "Z" (.int z)) (hz : ¬ z = 0) :
    Ctr l Z consts_1 xs n0 (⟨"com/example/tasklane/tasklane/engine/TaskSortFromIdPinLaw", "replaced", "(IIC)Ljava/lang/String;"⟩ : MethodName) method_5_code 4 (some (.object "java/lang/String")) [] ({ frames := 4, cells := 3, slots := 22, locals := 66 } : Room) #[(.int k), (.int (Int32.ofNat i)), (.int cc)] h (fun v h' => ∃ a, v = some (.ref a) ∧ Ext h h' ∧ Str Z h' a ((own_nm k).set i cc)) := by
  refine Ctr.body pn9 ?_
  intro p e s m below meth c K
  refine Go.entry (f' := (mkF m 0 #[.val (.int k), .val (.int (Int32.ofNat i)), .val (.int cc), .unset] [])) (by first | (simp [entryFrame, mkF, argsToLocals, Value.category]; done) | rfl) ?_
  have E0 := Ext.refl h
  refine Go.iloadN K (q := 1) rfl d9_0 rfl ?_
  refine Go.ifc K (q := 70) (q' := 4) (by decide) (by decide) rfl d9_1 (fun (g0 : ¬ k = (0 : Int32)) => ?_) (fun (g0 : k = (0 : Int32)) => ?_)
  · skip
    refine Go.iloadN K (q := 71) rfl d9_70 rfl ?_
    refine Go.iconst K (q := 72) rfl (v := (1 : Int32)) (by decide) d9_71 ?_
    refine Go.icmp K (q := 135) (q' := 75) (by decide) (by decide) rfl d9_72 (fun (g1 : ¬ k = (1 : Int32)) => ?_) (fun (g1 : k = (1 : Int32)) => ?_)
    · skip
      refine Go.iloadN K (q := 136) rfl d9_135 rfl ?_
      refine Go.iconst K (q := 137) rfl (v := (2 : Int32)) (by decide) d9_136 ?_
      refine Go.icmp K (q := 194) (q' := 140) (by decide) (by decide) rfl d9_137 (fun (g2 : ¬ k = (2 : Int32)) => ?_) (fun (g2 : k = (2 : Int32)) => ?_)
      · skip
        refine Go.iconst K (q := 195) rfl (v := (4 : Int32)) (by decide) d9_194 ?_
        refine Go.newarr K (q := 197) rfl (hw _ (List.mem_of_getElem? (i := 51) rfl)) d9_195 (by decide) (cap := 4) (by decide) (by decide) (cells' := 1) (slots' := 4) rfl rfl (by decide) (by decide) ?_
        intro h1 ca k_ca g_ca N_ca V_ca
        have V_ca : Arv Z h1 ca k_ca .char (4 : Int32) [(.int (0 : Int32)), (.int (0 : Int32)), (.int (0 : Int32)), (.int (0 : Int32))] (.int (0 : Int32)) := V_ca
        have ge_E0_ca : h.size ≤ ca := Nat.le_trans E0.1 (Nat.le_of_eq g_ca.symm)
        have E0 := Ext.trans E0 N_ca
        have n_ca : n0 ≤ ca := Nat.le_trans Z0 ge_E0_ca
        refine Go.dup K (q := 198) rfl d9_197 rfl ?_
        refine Go.iconst K (q := 199) rfl (v := (0 : Int32)) (by decide) d9_198 ?_
        refine Go.bipush K (q := 201) rfl (v := (110 : Int32)) (by decide) d9_199 ?_
        refine Go.castore K (q := 202) rfl V_ca (i := 0) d9_201 ⟨by decide, by decide⟩ rfl (Nat.le_of_ble_eq_true rfl) n_ca List.mem_cons_self ?_
        intro h2 W3 V_ca
        have E0 := Ext.wr E0 W3 ge_E0_ca
        refine Go.dup K (q := 203) rfl d9_202 rfl ?_
        refine Go.iconst K (q := 204) rfl (v := (1 : Int32)) (by decide) d9_203 ?_
        refine Go.bipush K (q := 206) rfl (v := (97 : Int32)) (by decide) d9_204 ?_
        refine Go.castore K (q := 207) rfl V_ca (i := 1) d9_206 ⟨by decide, by decide⟩ rfl (Nat.le_of_ble_eq_true rfl) n_ca List.mem_cons_self ?_
        intro h4 W5 V_ca
        have E0 := Ext.wr E0 W5 ge_E0_ca
        refine Go.dup K (q := 208) rfl d9_207 rfl ?_
        refine Go.iconst K (q := 209) rfl (v := (2 : Int32)) (by decide) d9_208 ?_
        refine Go.bipush K (q := 211) rfl (v := (109 : Int32)) (by decide) d9_209 ?_
        refine Go.castore K (q := 212) rfl V_ca (i := 2) d9_211 ⟨by decide, by decide⟩ rfl (Nat.le_of_ble_eq_true rfl) n_ca List.mem_cons_self ?_
        intro h6 W7 V_ca
        have E0 := Ext.wr E0 W7 ge_E0_ca
        refine Go.dup K (q := 213) rfl d9_212 rfl ?_
        refine Go.iconst K (q := 214) rfl (v := (3 : Int32)) (by decide) d9_213 ?_
        refine Go.bipush K (q := 216) rfl (v := (101 : Int32)) (by decide) d9_214 ?_
        refine Go.castore K (q := 217) rfl V_ca (i := 3) d9_216 ⟨by decide, by decide⟩ rfl (Nat.le_of_ble_eq_true rfl) n_ca List.mem_cons_self ?_
        intro h8 W9 V_ca
        have E0 := Ext.wr E0 W9 ge_E0_ca
        refine Go.astoreN K (q := 218) rfl (L' := #[.val (.int k), .val (.int (Int32.ofNat i)), .val (.int cc), .val (.ref ca)]) d9_217 rfl rfl ?_
        refine Go.aloadN K (q := 219) rfl d9_218 rfl rfl ?_
        refine Go.iloadN K (q := 220) rfl d9_219 rfl ?_
        refine Go.iloadN K (q := 221) rfl d9_220 rfl ?_
        show Go p l e _ s m _ below meth c _ _ _ _ _ _ _ _ _ h8 1 4 (mkF m 221 #[.val (.int k), .val (.int (Int32.ofNat i)), .val (.int cc), .val (.ref ca)] [(.int cc), (.int (Int32.ofNat i)), (.ref ca)])
        rw [show nar .char (97 : Int32) = (97 : Int32) from by decide, show nar .char (101 : Int32) = (101 : Int32) from by decide, show nar .char (109 : Int32) = (109 : Int32) from by decide, show nar .char (110 : Int32) = (110 : Int32) from by decide] at V_ca
        have V_ca : Arv Z h8 ca k_ca .char (4 : Int32) (([(110 : Int32), (97 : Int32), (109 : Int32), (101 : Int32)] : List Int32).map Value.int) (.int (0 : Int32)) := V_ca
        have hi' : i < 4 := by rw [own_nm, if_neg g0, if_neg g1, if_neg g2] at hi; exact hi
        refine Go.castore K (q := 222) rfl V_ca (i := i) d9_221 (own_ix (n := 4) hi' (by decide)).1 (own_ix (n := 4) hi' (by decide)).2 (by simpa using hi') n_ca List.mem_cons_self ?_
        intro h10 W11 V_ca
        have E0 := Ext.wr E0 W11 ge_E0_ca
        rw [own_nc hcc] at V_ca
        have V_ca : Arv Z h10 ca k_ca .char (4 : Int32) ((([(110 : Int32), (97 : Int32), (109 : Int32), (101 : Int32)] : List Int32).set i cc : List Int32).map Value.int) (.int (0 : Int32)) := by rw [List.map_set]; exact V_ca
        have hp12 : ∀ c ∈ (([(110 : Int32), (97 : Int32), (109 : Int32), (101 : Int32)] : List Int32).set i cc : List Int32), ¬ c < 0 ∧ ¬ (255 : Int32) < c := own_rs (by decide) hcc
        refine Go.new K (q := 225) rfl (hw _ (List.mem_of_getElem? (i := 52) rfl)) (hw _ (List.mem_of_getElem? (i := 6) rfl)) (hw _ (List.mem_of_getElem? (i := 5) rfl)) d9_222 (cells' := 2) (slots' := 8) rfl rfl (by decide) (by decide) ?_
        intro h14 a13 g_a13 N_a13 X_a13 D_a13
        have ge_E0_a13 : h.size ≤ a13 := Nat.le_trans E0.1 (Nat.le_of_eq g_a13.symm)
        have E0 := Ext.trans E0 N_a13
        have Fv_a13 : Fld Z h14 a13 "java/lang/String" "value" "[B" .null := D_a13 (Or.inr (hw _ (List.mem_of_getElem? (i := 8) rfl))) (ty := .array .byte) (by decide)
        have Fc_a13 : Fld Z h14 a13 "java/lang/String" "coder" "B" (.int (0 : Int32)) := D_a13 (Or.inr (hw _ (List.mem_of_getElem? (i := 9) rfl))) (ty := .byte) (by decide)
        have n_a13 : n0 ≤ a13 := Nat.le_trans Z0 ge_E0_a13
        refine Go.dup K (q := 226) rfl d9_225 rfl ?_
        refine Go.aloadN K (q := 227) rfl d9_226 rfl rfl ?_
        have V_ca := V_ca.ext N_a13
        refine Go.newStr K (q := 230) rfl (own_words hw) (hw _ (List.mem_of_getElem? (i := 6) rfl)) (hw _ (List.mem_of_getElem? (i := 53) rfl)) (hw _ (List.mem_of_getElem? (i := 54) rfl)) (hw _ (List.mem_of_getElem? (i := 55) rfl)) (cs := ([(110 : Int32), (97 : Int32), (109 : Int32), (101 : Int32)] : List Int32).set i cc) n_a13 (Nat.le_trans Z0 E0.1) X_a13 Fv_a13 Fc_a13 V_ca (Sa.ext E0) hz (n := 4) (by simp) rfl (by decide) (by decide) hp12 d9_227 List.mem_cons_self (by decide) rfl (W := 1) (Nat.le_of_eq rfl) (by decide) (cells' := 3) (slots' := 12) rfl rfl (by decide) (by decide) ?_
        intro h15 K16 S_a13
        have E0 := Ext.keep E0 K16 (allS ge_E0_a13 all0)
        exact Go.retA K rfl rfl d9_230 (by decide) (by decide) (fun _ q => (List.mem_cons_of_mem _ (List.mem_cons_of_mem _ q))) (⟨a13, rfl, E0, by rw [own_nm, if_neg g0, if_neg g1, if_neg g2]; exact S_a13⟩)
      · skip
        refine Go.bipush K (q := 142) rfl (v := (7 : Int32)) (by decide) d9_140 ?_
        refine Go.newarr K (q := 144) rfl (hw _ (List.mem_of_getElem? (i := 51) rfl)) d9_142 (by decide) (cap := 7) (by decide) (by decide) (cells' := 1) (slots' := 7) rfl rfl (by decide) (by decide) ?_
        intro h17 ca k_ca g_ca N_ca V_ca
        have V_ca : Arv Z h17 ca k_ca .char (7 : Int32) [(.int (0 : Int32)), (.int (0 : Int32)), (.int (0 : Int32)), (.int (0 : Int32)), (.int (0 : Int32)), (.int (0 : Int32)), (.int (0 : Int32))] (.int (0 : Int32)) := V_ca
        have ge_E0_ca : h.size ≤ ca := Nat.le_trans E0.1 (Nat.le_of_eq g_ca.symm)
        have E0 := Ext.trans E0 N_ca
        have n_ca : n0 ≤ ca := Nat.le_trans Z0 ge_E0_ca
        refine Go.dup K (q := 145) rfl d9_144 rfl ?_
        refine Go.iconst K (q := 146) rfl (v := (0 : Int32)) (by decide) d9_145 ?_
        refine Go.bipush K (q := 148) rfl (v := (100 : Int32)) (by decide) d9_146 ?_
        refine Go.castore K (q := 149) rfl V_ca (i := 0) d9_148 ⟨by decide, by decide⟩ rfl (Nat.le_of_ble_eq_true rfl) n_ca List.mem_cons_self ?_
        intro h18 W19 V_ca
        have E0 := Ext.wr E0 W19 ge_E0_ca
        refine Go.dup K (q := 150) rfl d9_149 rfl ?_
        refine Go.iconst K (q := 151) rfl (v := (1 : Int32)) (by decide) d9_150 ?_
        refine Go.bipush K (q := 153) rfl (v := (117 : Int32)) (by decide) d9_151 ?_
        refine Go.castore K (q := 154) rfl V_ca (i := 1) d9_153 ⟨by decide, by decide⟩ rfl (Nat.le_of_ble_eq_true rfl) n_ca List.mem_cons_self ?_
        intro h20 W21 V_ca
        have E0 := Ext.wr E0 W21 ge_E0_ca
        refine Go.dup K (q := 155) rfl d9_154 rfl ?_
        refine Go.iconst K (q := 156) rfl (v := (2 : Int32)) (by decide) d9_155 ?_
        refine Go.bipush K (q := 158) rfl (v := (101 : Int32)) (by decide) d9_156 ?_
        refine Go.castore K (q := 159) rfl V_ca (i := 2) d9_158 ⟨by decide, by decide⟩ rfl (Nat.le_of_ble_eq_true rfl) n_ca List.mem_cons_self ?_
        intro h22 W23 V_ca
        have E0 := Ext.wr E0 W23 ge_E0_ca
        refine Go.dup K (q := 160) rfl d9_159 rfl ?_
        refine Go.iconst K (q := 161) rfl (v := (3 : Int32)) (by decide) d9_160 ?_
        refine Go.bipush K (q := 163) rfl (v := (68 : Int32)) (by decide) d9_161 ?_
        refine Go.castore K (q := 164) rfl V_ca (i := 3) d9_163 ⟨by decide, by decide⟩ rfl (Nat.le_of_ble_eq_true rfl) n_ca List.mem_cons_self ?_
        intro h24 W25 V_ca
        have E0 := Ext.wr E0 W25 ge_E0_ca
        refine Go.dup K (q := 165) rfl d9_164 rfl ?_
        refine Go.iconst K (q := 166) rfl (v := (4 : Int32)) (by decide) d9_165 ?_
        refine Go.bipush K (q := 168) rfl (v := (97 : Int32)) (by decide) d9_166 ?_
        refine Go.castore K (q := 169) rfl V_ca (i := 4) d9_168 ⟨by decide, by decide⟩ rfl (Nat.le_of_ble_eq_true rfl) n_ca List.mem_cons_self ?_
        intro h26 W27 V_ca
        have E0 := Ext.wr E0 W27 ge_E0_ca
        refine Go.dup K (q := 170) rfl d9_169 rfl ?_
        refine Go.iconst K (q := 171) rfl (v := (5 : Int32)) (by decide) d9_170 ?_
        refine Go.bipush K (q := 173) rfl (v := (116 : Int32)) (by decide) d9_171 ?_
        refine Go.castore K (q := 174) rfl V_ca (i := 5) d9_173 ⟨by decide, by decide⟩ rfl (Nat.le_of_ble_eq_true rfl) n_ca List.mem_cons_self ?_
        intro h28 W29 V_ca
        have E0 := Ext.wr E0 W29 ge_E0_ca
        refine Go.dup K (q := 175) rfl d9_174 rfl ?_
        refine Go.bipush K (q := 177) rfl (v := (6 : Int32)) (by decide) d9_175 ?_
        refine Go.bipush K (q := 179) rfl (v := (101 : Int32)) (by decide) d9_177 ?_
        refine Go.castore K (q := 180) rfl V_ca (i := 6) d9_179 ⟨by decide, by decide⟩ rfl (Nat.le_of_ble_eq_true rfl) n_ca List.mem_cons_self ?_
        intro h30 W31 V_ca
        have E0 := Ext.wr E0 W31 ge_E0_ca
        refine Go.astoreN K (q := 181) rfl (L' := #[.val (.int k), .val (.int (Int32.ofNat i)), .val (.int cc), .val (.ref ca)]) d9_180 rfl rfl ?_
        refine Go.aloadN K (q := 182) rfl d9_181 rfl rfl ?_
        refine Go.iloadN K (q := 183) rfl d9_182 rfl ?_
        refine Go.iloadN K (q := 184) rfl d9_183 rfl ?_
        show Go p l e _ s m _ below meth c _ _ _ _ _ _ _ _ _ h30 1 7 (mkF m 184 #[.val (.int k), .val (.int (Int32.ofNat i)), .val (.int cc), .val (.ref ca)] [(.int cc), (.int (Int32.ofNat i)), (.ref ca)])
        rw [show nar .char (68 : Int32) = (68 : Int32) from by decide, show nar .char (97 : Int32) = (97 : Int32) from by decide, show nar .char (100 : Int32) = (100 : Int32) from by decide, show nar .char (101 : Int32) = (101 : Int32) from by decide, show nar .char (116 : Int32) = (116 : Int32) from by decide, show nar .char (117 : Int32) = (117 : Int32) from by decide] at V_ca
        have V_ca : Arv Z h30 ca k_ca .char (7 : Int32) (([(100 : Int32), (117 : Int32), (101 : Int32), (68 : Int32), (97 : Int32), (116 : Int32), (101 : Int32)] : List Int32).map Value.int) (.int (0 : Int32)) := V_ca
        have hi' : i < 7 := by rw [own_nm, if_neg g0, if_neg g1, if_pos g2] at hi; exact hi
        refine Go.castore K (q := 185) rfl V_ca (i := i) d9_184 (own_ix (n := 7) hi' (by decide)).1 (own_ix (n := 7) hi' (by decide)).2 (by simpa using hi') n_ca List.mem_cons_self ?_
        intro h32 W33 V_ca
        have E0 := Ext.wr E0 W33 ge_E0_ca
        rw [own_nc hcc] at V_ca
        have V_ca : Arv Z h32 ca k_ca .char (7 : Int32) ((([(100 : Int32), (117 : Int32), (101 : Int32), (68 : Int32), (97 : Int32), (116 : Int32), (101 : Int32)] : List Int32).set i cc : List Int32).map Value.int) (.int (0 : Int32)) := by rw [List.map_set]; exact V_ca
        have hp34 : ∀ c ∈ (([(100 : Int32), (117 : Int32), (101 : Int32), (68 : Int32), (97 : Int32), (116 : Int32), (101 : Int32)] : List Int32).set i cc : List Int32), ¬ c < 0 ∧ ¬ (255 : Int32) < c := own_rs (by decide) hcc
        refine Go.new K (q := 188) rfl (hw _ (List.mem_of_getElem? (i := 52) rfl)) (hw _ (List.mem_of_getElem? (i := 6) rfl)) (hw _ (List.mem_of_getElem? (i := 5) rfl)) d9_185 (cells' := 2) (slots' := 11) rfl rfl (by decide) (by decide) ?_
        intro h36 a35 g_a35 N_a35 X_a35 D_a35
        have ge_E0_a35 : h.size ≤ a35 := Nat.le_trans E0.1 (Nat.le_of_eq g_a35.symm)
        have E0 := Ext.trans E0 N_a35
        have Fv_a35 : Fld Z h36 a35 "java/lang/String" "value" "[B" .null := D_a35 (Or.inr (hw _ (List.mem_of_getElem? (i := 8) rfl))) (ty := .array .byte) (by decide)
        have Fc_a35 : Fld Z h36 a35 "java/lang/String" "coder" "B" (.int (0 : Int32)) := D_a35 (Or.inr (hw _ (List.mem_of_getElem? (i := 9) rfl))) (ty := .byte) (by decide)
        have n_a35 : n0 ≤ a35 := Nat.le_trans Z0 ge_E0_a35
        refine Go.dup K (q := 189) rfl d9_188 rfl ?_
        refine Go.aloadN K (q := 190) rfl d9_189 rfl rfl ?_
        have V_ca := V_ca.ext N_a35
        refine Go.newStr K (q := 193) rfl (own_words hw) (hw _ (List.mem_of_getElem? (i := 6) rfl)) (hw _ (List.mem_of_getElem? (i := 53) rfl)) (hw _ (List.mem_of_getElem? (i := 54) rfl)) (hw _ (List.mem_of_getElem? (i := 55) rfl)) (cs := ([(100 : Int32), (117 : Int32), (101 : Int32), (68 : Int32), (97 : Int32), (116 : Int32), (101 : Int32)] : List Int32).set i cc) n_a35 (Nat.le_trans Z0 E0.1) X_a35 Fv_a35 Fc_a35 V_ca (Sa.ext E0) hz (n := 7) (by simp) rfl (by decide) (by decide) hp34 d9_190 List.mem_cons_self (by decide) rfl (W := 1) (Nat.le_of_eq rfl) (by decide) (cells' := 3) (slots' := 18) rfl rfl (by decide) (by decide) ?_
        intro h37 K38 S_a35
        have E0 := Ext.keep E0 K38 (allS ge_E0_a35 all0)
        exact Go.retA K rfl rfl d9_193 (by decide) (by decide) (fun _ q => (List.mem_cons_of_mem _ (List.mem_cons_of_mem _ q))) (⟨a35, rfl, E0, by rw [own_nm, if_neg g0, if_neg g1, if_pos g2]; exact S_a35⟩)
    · skip
      refine Go.bipush K (q := 77) rfl (v := (8 : Int32)) (by decide) d9_75 ?_
      refine Go.newarr K (q := 79) rfl (hw _ (List.mem_of_getElem? (i := 51) rfl)) d9_77 (by decide) (cap := 8) (by decide) (by decide) (cells' := 1) (slots' := 8) rfl rfl (by decide) (by decide) ?_
      intro h39 ca k_ca g_ca N_ca V_ca
      have V_ca : Arv Z h39 ca k_ca .char (8 : Int32) [(.int (0 : Int32)), (.int (0 : Int32)), (.int (0 : Int32)), (.int (0 : Int32)), (.int (0 : Int32)), (.int (0 : Int32)), (.int (0 : Int32)), (.int (0 : Int32))] (.int (0 : Int32)) := V_ca
      have ge_E0_ca : h.size ≤ ca := Nat.le_trans E0.1 (Nat.le_of_eq g_ca.symm)
      have E0 := Ext.trans E0 N_ca
      have n_ca : n0 ≤ ca := Nat.le_trans Z0 ge_E0_ca
      refine Go.dup K (q := 80) rfl d9_79 rfl ?_
      refine Go.iconst K (q := 81) rfl (v := (0 : Int32)) (by decide) d9_80 ?_
      refine Go.bipush K (q := 83) rfl (v := (112 : Int32)) (by decide) d9_81 ?_
      refine Go.castore K (q := 84) rfl V_ca (i := 0) d9_83 ⟨by decide, by decide⟩ rfl (Nat.le_of_ble_eq_true rfl) n_ca List.mem_cons_self ?_
      intro h40 W41 V_ca
      have E0 := Ext.wr E0 W41 ge_E0_ca
      refine Go.dup K (q := 85) rfl d9_84 rfl ?_
      refine Go.iconst K (q := 86) rfl (v := (1 : Int32)) (by decide) d9_85 ?_
      refine Go.bipush K (q := 88) rfl (v := (114 : Int32)) (by decide) d9_86 ?_
      refine Go.castore K (q := 89) rfl V_ca (i := 1) d9_88 ⟨by decide, by decide⟩ rfl (Nat.le_of_ble_eq_true rfl) n_ca List.mem_cons_self ?_
      intro h42 W43 V_ca
      have E0 := Ext.wr E0 W43 ge_E0_ca
      refine Go.dup K (q := 90) rfl d9_89 rfl ?_
      refine Go.iconst K (q := 91) rfl (v := (2 : Int32)) (by decide) d9_90 ?_
      refine Go.bipush K (q := 93) rfl (v := (105 : Int32)) (by decide) d9_91 ?_
      refine Go.castore K (q := 94) rfl V_ca (i := 2) d9_93 ⟨by decide, by decide⟩ rfl (Nat.le_of_ble_eq_true rfl) n_ca List.mem_cons_self ?_
      intro h44 W45 V_ca
      have E0 := Ext.wr E0 W45 ge_E0_ca
      refine Go.dup K (q := 95) rfl d9_94 rfl ?_
      refine Go.iconst K (q := 96) rfl (v := (3 : Int32)) (by decide) d9_95 ?_
      refine Go.bipush K (q := 98) rfl (v := (111 : Int32)) (by decide) d9_96 ?_
      refine Go.castore K (q := 99) rfl V_ca (i := 3) d9_98 ⟨by decide, by decide⟩ rfl (Nat.le_of_ble_eq_true rfl) n_ca List.mem_cons_self ?_
      intro h46 W47 V_ca
      have E0 := Ext.wr E0 W47 ge_E0_ca
      refine Go.dup K (q := 100) rfl d9_99 rfl ?_
      refine Go.iconst K (q := 101) rfl (v := (4 : Int32)) (by decide) d9_100 ?_
      refine Go.bipush K (q := 103) rfl (v := (114 : Int32)) (by decide) d9_101 ?_
      refine Go.castore K (q := 104) rfl V_ca (i := 4) d9_103 ⟨by decide, by decide⟩ rfl (Nat.le_of_ble_eq_true rfl) n_ca List.mem_cons_self ?_
      intro h48 W49 V_ca
      have E0 := Ext.wr E0 W49 ge_E0_ca
      refine Go.dup K (q := 105) rfl d9_104 rfl ?_
      refine Go.iconst K (q := 106) rfl (v := (5 : Int32)) (by decide) d9_105 ?_
      refine Go.bipush K (q := 108) rfl (v := (105 : Int32)) (by decide) d9_106 ?_
      refine Go.castore K (q := 109) rfl V_ca (i := 5) d9_108 ⟨by decide, by decide⟩ rfl (Nat.le_of_ble_eq_true rfl) n_ca List.mem_cons_self ?_
      intro h50 W51 V_ca
      have E0 := Ext.wr E0 W51 ge_E0_ca
      refine Go.dup K (q := 110) rfl d9_109 rfl ?_
      refine Go.bipush K (q := 112) rfl (v := (6 : Int32)) (by decide) d9_110 ?_
      refine Go.bipush K (q := 114) rfl (v := (116 : Int32)) (by decide) d9_112 ?_
      refine Go.castore K (q := 115) rfl V_ca (i := 6) d9_114 ⟨by decide, by decide⟩ rfl (Nat.le_of_ble_eq_true rfl) n_ca List.mem_cons_self ?_
      intro h52 W53 V_ca
      have E0 := Ext.wr E0 W53 ge_E0_ca
      refine Go.dup K (q := 116) rfl d9_115 rfl ?_
      refine Go.bipush K (q := 118) rfl (v := (7 : Int32)) (by decide) d9_116 ?_
      refine Go.bipush K (q := 120) rfl (v := (121 : Int32)) (by decide) d9_118 ?_
      refine Go.castore K (q := 121) rfl V_ca (i := 7) d9_120 ⟨by decide, by decide⟩ rfl (Nat.le_of_ble_eq_true rfl) n_ca List.mem_cons_self ?_
      intro h54 W55 V_ca
      have E0 := Ext.wr E0 W55 ge_E0_ca
      refine Go.astoreN K (q := 122) rfl (L' := #[.val (.int k), .val (.int (Int32.ofNat i)), .val (.int cc), .val (.ref ca)]) d9_121 rfl rfl ?_
      refine Go.aloadN K (q := 123) rfl d9_122 rfl rfl ?_
      refine Go.iloadN K (q := 124) rfl d9_123 rfl ?_
      refine Go.iloadN K (q := 125) rfl d9_124 rfl ?_
      show Go p l e _ s m _ below meth c _ _ _ _ _ _ _ _ _ h54 1 8 (mkF m 125 #[.val (.int k), .val (.int (Int32.ofNat i)), .val (.int cc), .val (.ref ca)] [(.int cc), (.int (Int32.ofNat i)), (.ref ca)])
      rw [show nar .char (105 : Int32) = (105 : Int32) from by decide, show nar .char (111 : Int32) = (111 : Int32) from by decide, show nar .char (112 : Int32) = (112 : Int32) from by decide, show nar .char (114 : Int32) = (114 : Int32) from by decide, show nar .char (116 : Int32) = (116 : Int32) from by decide, show nar .char (121 : Int32) = (121 : Int32) from by decide] at V_ca
      have V_ca : Arv Z h54 ca k_ca .char (8 : Int32) (([(112 : Int32), (114 : Int32), (105 : Int32), (111 : Int32), (114 : Int32), (105 : Int32), (116 : Int32), (121 : Int32)] : List Int32).map Value.int) (.int (0 : Int32)) := V_ca
      have hi' : i < 8 := by rw [own_nm, if_neg g0, if_pos g1] at hi; exact hi
      refine Go.castore K (q := 126) rfl V_ca (i := i) d9_125 (own_ix (n := 8) hi' (by decide)).1 (own_ix (n := 8) hi' (by decide)).2 (by simpa using hi') n_ca List.mem_cons_self ?_
      intro h56 W57 V_ca
      have E0 := Ext.wr E0 W57 ge_E0_ca
      rw [own_nc hcc] at V_ca
      have V_ca : Arv Z h56 ca k_ca .char (8 : Int32) ((([(112 : Int32), (114 : Int32), (105 : Int32), (111 : Int32), (114 : Int32), (105 : Int32), (116 : Int32), (121 : Int32)] : List Int32).set i cc : List Int32).map Value.int) (.int (0 : Int32)) := by rw [List.map_set]; exact V_ca
      have hp58 : ∀ c ∈ (([(112 : Int32), (114 : Int32), (105 : Int32), (111 : Int32), (114 : Int32), (105 : Int32), (116 : Int32), (121 : Int32)] : List Int32).set i cc : List Int32), ¬ c < 0 ∧ ¬ (255 : Int32) < c := own_rs (by decide) hcc
      refine Go.new K (q := 129) rfl (hw _ (List.mem_of_getElem? (i := 52) rfl)) (hw _ (List.mem_of_getElem? (i := 6) rfl)) (hw _ (List.mem_of_getElem? (i := 5) rfl)) d9_126 (cells' := 2) (slots' := 12) rfl rfl (by decide) (by decide) ?_
      intro h60 a59 g_a59 N_a59 X_a59 D_a59
      have ge_E0_a59 : h.size ≤ a59 := Nat.le_trans E0.1 (Nat.le_of_eq g_a59.symm)
      have E0 := Ext.trans E0 N_a59
      have Fv_a59 : Fld Z h60 a59 "java/lang/String" "value" "[B" .null := D_a59 (Or.inr (hw _ (List.mem_of_getElem? (i := 8) rfl))) (ty := .array .byte) (by decide)
      have Fc_a59 : Fld Z h60 a59 "java/lang/String" "coder" "B" (.int (0 : Int32)) := D_a59 (Or.inr (hw _ (List.mem_of_getElem? (i := 9) rfl))) (ty := .byte) (by decide)
      have n_a59 : n0 ≤ a59 := Nat.le_trans Z0 ge_E0_a59
      refine Go.dup K (q := 130) rfl d9_129 rfl ?_
      refine Go.aloadN K (q := 131) rfl d9_130 rfl rfl ?_
      have V_ca := V_ca.ext N_a59
      refine Go.newStr K (q := 134) rfl (own_words hw) (hw _ (List.mem_of_getElem? (i := 6) rfl)) (hw _ (List.mem_of_getElem? (i := 53) rfl)) (hw _ (List.mem_of_getElem? (i := 54) rfl)) (hw _ (List.mem_of_getElem? (i := 55) rfl)) (cs := ([(112 : Int32), (114 : Int32), (105 : Int32), (111 : Int32), (114 : Int32), (105 : Int32), (116 : Int32), (121 : Int32)] : List Int32).set i cc) n_a59 (Nat.le_trans Z0 E0.1) X_a59 Fv_a59 Fc_a59 V_ca (Sa.ext E0) hz (n := 8) (by simp) rfl (by decide) (by decide) hp58 d9_131 List.mem_cons_self (by decide) rfl (W := 1) (Nat.le_of_eq rfl) (by decide) (cells' := 3) (slots' := 20) rfl rfl (by decide) (by decide) ?_
      intro h61 K62 S_a59
      have E0 := Ext.keep E0 K62 (allS ge_E0_a59 all0)
      exact Go.retA K rfl rfl d9_134 (by decide) (by decide) (fun _ q => (List.mem_cons_of_mem _ (List.mem_cons_of_mem _ q))) (⟨a59, rfl, E0, by rw [own_nm, if_neg g0, if_pos g1]; exact S_a59⟩)
  · skip
    refine Go.bipush K (q := 6) rfl (v := (9 : Int32)) (by decide) d9_4 ?_
    refine Go.newarr K (q := 8) rfl (hw _ (List.mem_of_getElem? (i := 51) rfl)) d9_6 (by decide) (cap := 9) (by decide) (by decide) (cells' := 1) (slots' := 9) rfl rfl (by decide) (by decide) ?_
    intro h63 ca k_ca g_ca N_ca V_ca
    have V_ca : Arv Z h63 ca k_ca .char (9 : Int32) [(.int (0 : Int32)), (.int (0 : Int32)), (.int (0 : Int32)), (.int (0 : Int32)), (.int (0 : Int32)), (.int (0 : Int32)), (.int (0 : Int32)), (.int (0 : Int32)), (.int (0 : Int32))] (.int (0 : Int32)) := V_ca
    have ge_E0_ca : h.size ≤ ca := Nat.le_trans E0.1 (Nat.le_of_eq g_ca.symm)
    have E0 := Ext.trans E0 N_ca
    have n_ca : n0 ≤ ca := Nat.le_trans Z0 ge_E0_ca
    refine Go.dup K (q := 9) rfl d9_8 rfl ?_
    refine Go.iconst K (q := 10) rfl (v := (0 : Int32)) (by decide) d9_9 ?_
    refine Go.bipush K (q := 12) rfl (v := (99 : Int32)) (by decide) d9_10 ?_
    refine Go.castore K (q := 13) rfl V_ca (i := 0) d9_12 ⟨by decide, by decide⟩ rfl (Nat.le_of_ble_eq_true rfl) n_ca List.mem_cons_self ?_
    intro h64 W65 V_ca
    have E0 := Ext.wr E0 W65 ge_E0_ca
    refine Go.dup K (q := 14) rfl d9_13 rfl ?_
    refine Go.iconst K (q := 15) rfl (v := (1 : Int32)) (by decide) d9_14 ?_
    refine Go.bipush K (q := 17) rfl (v := (114 : Int32)) (by decide) d9_15 ?_
    refine Go.castore K (q := 18) rfl V_ca (i := 1) d9_17 ⟨by decide, by decide⟩ rfl (Nat.le_of_ble_eq_true rfl) n_ca List.mem_cons_self ?_
    intro h66 W67 V_ca
    have E0 := Ext.wr E0 W67 ge_E0_ca
    refine Go.dup K (q := 19) rfl d9_18 rfl ?_
    refine Go.iconst K (q := 20) rfl (v := (2 : Int32)) (by decide) d9_19 ?_
    refine Go.bipush K (q := 22) rfl (v := (101 : Int32)) (by decide) d9_20 ?_
    refine Go.castore K (q := 23) rfl V_ca (i := 2) d9_22 ⟨by decide, by decide⟩ rfl (Nat.le_of_ble_eq_true rfl) n_ca List.mem_cons_self ?_
    intro h68 W69 V_ca
    have E0 := Ext.wr E0 W69 ge_E0_ca
    refine Go.dup K (q := 24) rfl d9_23 rfl ?_
    refine Go.iconst K (q := 25) rfl (v := (3 : Int32)) (by decide) d9_24 ?_
    refine Go.bipush K (q := 27) rfl (v := (97 : Int32)) (by decide) d9_25 ?_
    refine Go.castore K (q := 28) rfl V_ca (i := 3) d9_27 ⟨by decide, by decide⟩ rfl (Nat.le_of_ble_eq_true rfl) n_ca List.mem_cons_self ?_
    intro h70 W71 V_ca
    have E0 := Ext.wr E0 W71 ge_E0_ca
    refine Go.dup K (q := 29) rfl d9_28 rfl ?_
    refine Go.iconst K (q := 30) rfl (v := (4 : Int32)) (by decide) d9_29 ?_
    refine Go.bipush K (q := 32) rfl (v := (116 : Int32)) (by decide) d9_30 ?_
    refine Go.castore K (q := 33) rfl V_ca (i := 4) d9_32 ⟨by decide, by decide⟩ rfl (Nat.le_of_ble_eq_true rfl) n_ca List.mem_cons_self ?_
    intro h72 W73 V_ca
    have E0 := Ext.wr E0 W73 ge_E0_ca
    refine Go.dup K (q := 34) rfl d9_33 rfl ?_
    refine Go.iconst K (q := 35) rfl (v := (5 : Int32)) (by decide) d9_34 ?_
    refine Go.bipush K (q := 37) rfl (v := (101 : Int32)) (by decide) d9_35 ?_
    refine Go.castore K (q := 38) rfl V_ca (i := 5) d9_37 ⟨by decide, by decide⟩ rfl (Nat.le_of_ble_eq_true rfl) n_ca List.mem_cons_self ?_
    intro h74 W75 V_ca
    have E0 := Ext.wr E0 W75 ge_E0_ca
    refine Go.dup K (q := 39) rfl d9_38 rfl ?_
    refine Go.bipush K (q := 41) rfl (v := (6 : Int32)) (by decide) d9_39 ?_
    refine Go.bipush K (q := 43) rfl (v := (100 : Int32)) (by decide) d9_41 ?_
    refine Go.castore K (q := 44) rfl V_ca (i := 6) d9_43 ⟨by decide, by decide⟩ rfl (Nat.le_of_ble_eq_true rfl) n_ca List.mem_cons_self ?_
    intro h76 W77 V_ca
    have E0 := Ext.wr E0 W77 ge_E0_ca
    refine Go.dup K (q := 45) rfl d9_44 rfl ?_
    refine Go.bipush K (q := 47) rfl (v := (7 : Int32)) (by decide) d9_45 ?_
    refine Go.bipush K (q := 49) rfl (v := (65 : Int32)) (by decide) d9_47 ?_
    refine Go.castore K (q := 50) rfl V_ca (i := 7) d9_49 ⟨by decide, by decide⟩ rfl (Nat.le_of_ble_eq_true rfl) n_ca List.mem_cons_self ?_
    intro h78 W79 V_ca
    have E0 := Ext.wr E0 W79 ge_E0_ca
    refine Go.dup K (q := 51) rfl d9_50 rfl ?_
    refine Go.bipush K (q := 53) rfl (v := (8 : Int32)) (by decide) d9_51 ?_
    refine Go.bipush K (q := 55) rfl (v := (116 : Int32)) (by decide) d9_53 ?_
    refine Go.castore K (q := 56) rfl V_ca (i := 8) d9_55 ⟨by decide, by decide⟩ rfl (Nat.le_of_ble_eq_true rfl) n_ca List.mem_cons_self ?_
    intro h80 W81 V_ca
    have E0 := Ext.wr E0 W81 ge_E0_ca
    refine Go.astoreN K (q := 57) rfl (L' := #[.val (.int k), .val (.int (Int32.ofNat i)), .val (.int cc), .val (.ref ca)]) d9_56 rfl rfl ?_
    refine Go.aloadN K (q := 58) rfl d9_57 rfl rfl ?_
    refine Go.iloadN K (q := 59) rfl d9_58 rfl ?_
    refine Go.iloadN K (q := 60) rfl d9_59 rfl ?_
    show Go p l e _ s m _ below meth c _ _ _ _ _ _ _ _ _ h80 1 9 (mkF m 60 #[.val (.int k), .val (.int (Int32.ofNat i)), .val (.int cc), .val (.ref ca)] [(.int cc), (.int (Int32.ofNat i)), (.ref ca)])
    rw [show nar .char (65 : Int32) = (65 : Int32) from by decide, show nar .char (97 : Int32) = (97 : Int32) from by decide, show nar .char (99 : Int32) = (99 : Int32) from by decide, show nar .char (100 : Int32) = (100 : Int32) from by decide, show nar .char (101 : Int32) = (101 : Int32) from by decide, show nar .char (114 : Int32) = (114 : Int32) from by decide, show nar .char (116 : Int32) = (116 : Int32) from by decide] at V_ca
    have V_ca : Arv Z h80 ca k_ca .char (9 : Int32) (([(99 : Int32), (114 : Int32), (101 : Int32), (97 : Int32), (116 : Int32), (101 : Int32), (100 : Int32), (65 : Int32), (116 : Int32)] : List Int32).map Value.int) (.int (0 : Int32)) := V_ca
    have hi' : i < 9 := by rw [own_nm, if_pos g0] at hi; exact hi
    refine Go.castore K (q := 61) rfl V_ca (i := i) d9_60 (own_ix (n := 9) hi' (by decide)).1 (own_ix (n := 9) hi' (by decide)).2 (by simpa using hi') n_ca List.mem_cons_self ?_
    intro h82 W83 V_ca
    have E0 := Ext.wr E0 W83 ge_E0_ca
    rw [own_nc hcc] at V_ca
    have V_ca : Arv Z h82 ca k_ca .char (9 : Int32) ((([(99 : Int32), (114 : Int32), (101 : Int32), (97 : Int32), (116 : Int32), (101 : Int32), (100 : Int32), (65 : Int32), (116 : Int32)] : List Int32).set i cc : List Int32).map Value.int) (.int (0 : Int32)) := by rw [List.map_set]; exact V_ca
    have hp84 : ∀ c ∈ (([(99 : Int32), (114 : Int32), (101 : Int32), (97 : Int32), (116 : Int32), (101 : Int32), (100 : Int32), (65 : Int32), (116 : Int32)] : List Int32).set i cc : List Int32), ¬ c < 0 ∧ ¬ (255 : Int32) < c := own_rs (by decide) hcc
    refine Go.new K (q := 64) rfl (hw _ (List.mem_of_getElem? (i := 52) rfl)) (hw _ (List.mem_of_getElem? (i := 6) rfl)) (hw _ (List.mem_of_getElem? (i := 5) rfl)) d9_61 (cells' := 2) (slots' := 13) rfl rfl (by decide) (by decide) ?_
    intro h86 a85 g_a85 N_a85 X_a85 D_a85
    have ge_E0_a85 : h.size ≤ a85 := Nat.le_trans E0.1 (Nat.le_of_eq g_a85.symm)
    have E0 := Ext.trans E0 N_a85
    have Fv_a85 : Fld Z h86 a85 "java/lang/String" "value" "[B" .null := D_a85 (Or.inr (hw _ (List.mem_of_getElem? (i := 8) rfl))) (ty := .array .byte) (by decide)
    have Fc_a85 : Fld Z h86 a85 "java/lang/String" "coder" "B" (.int (0 : Int32)) := D_a85 (Or.inr (hw _ (List.mem_of_getElem? (i := 9) rfl))) (ty := .byte) (by decide)
    have n_a85 : n0 ≤ a85 := Nat.le_trans Z0 ge_E0_a85
    refine Go.dup K (q := 65) rfl d9_64 rfl ?_
    refine Go.aloadN K (q := 66) rfl d9_65 rfl rfl ?_
    have V_ca := V_ca.ext N_a85
    refine Go.newStr K (q := 69) rfl (own_words hw) (hw _ (List.mem_of_getElem? (i := 6) rfl)) (hw _ (List.mem_of_getElem? (i := 53) rfl)) (hw _ (List.mem_of_getElem? (i := 54) rfl)) (hw _ (List.mem_of_getElem? (i := 55) rfl)) (cs := ([(99 : Int32), (114 : Int32), (101 : Int32), (97 : Int32), (116 : Int32), (101 : Int32), (100 : Int32), (65 : Int32), (116 : Int32)] : List Int32).set i cc) n_a85 (Nat.le_trans Z0 E0.1) X_a85 Fv_a85 Fc_a85 V_ca (Sa.ext E0) hz (n := 9) (by simp) rfl (by decide) (by decide) hp84 d9_66 List.mem_cons_self (by decide) rfl (W := 1) (Nat.le_of_eq rfl) (by decide) (cells' := 3) (slots' := 22) rfl rfl (by decide) (by decide) ?_
    intro h87 K88 S_a85
    have E0 := Ext.keep E0 K88 (allS ge_E0_a85 all0)
    exact Go.retA K rfl rfl d9_69 (by decide) (by decide) (fun _ q => (List.mem_cons_of_mem _ (List.mem_cons_of_mem _ q))) (⟨a85, rfl, E0, by rw [own_nm, if_pos g0]; exact S_a85⟩)
set_option maxRecDepth 65536 in
set_option maxHeartbeats 40000000 in
theorem c_trunc (l : Launch) (Z : State) (a0 : Array Value) (hw : ∀ d ∈ tables_1, d.before a0 Z = true) (xs : List Addr) (n0 : Nat) (h : Heap) (Z0 : n0 ≤ h.size) (k : Int32) (z : Int32) (Sa : Sta Z h "java/lang/String" "COMPACT_STRINGS" "Z" (.int z)) (hz : ¬ z = 0) :
    Ctr l Z consts_1 xs n0 (⟨"com/example/tasklane/tasklane/engine/TaskSortFromIdPinLaw", "truncated", "(I)Ljava/lang/String;"⟩ : MethodName) method_6_code 2 (some (.object "java/lang/String")) [] ({ frames := 4, cells := 3, slots := 20, locals := 66 } : Room) #[(.int k)] h (fun v h' => ∃ a, v = some (.ref a) ∧ Ext h h' ∧ Str Z h' a (own_tr k)) := by
  refine Ctr.body pn10 ?_
  intro p e s m below meth c K
  refine Go.entry (f' := (mkF m 0 #[.val (.int k), .unset] [])) (by first | (simp [entryFrame, mkF, argsToLocals, Value.category]; done) | rfl) ?_
  have E0 := Ext.refl h
  refine Go.iloadN K (q := 1) rfl d22_0 rfl ?_
  refine Go.ifc K (q := 60) (q' := 4) (by decide) (by decide) rfl d22_1 (fun (g0 : ¬ k = (0 : Int32)) => ?_) (fun (g0 : k = (0 : Int32)) => ?_)
  · skip
    refine Go.iloadN K (q := 61) rfl d22_60 rfl ?_
    refine Go.iconst K (q := 62) rfl (v := (1 : Int32)) (by decide) d22_61 ?_
    refine Go.icmp K (q := 115) (q' := 65) (by decide) (by decide) rfl d22_62 (fun (g1 : ¬ k = (1 : Int32)) => ?_) (fun (g1 : k = (1 : Int32)) => ?_)
    · skip
      refine Go.iloadN K (q := 116) rfl d22_115 rfl ?_
      refine Go.iconst K (q := 117) rfl (v := (2 : Int32)) (by decide) d22_116 ?_
      refine Go.icmp K (q := 164) (q' := 120) (by decide) (by decide) rfl d22_117 (fun (g2 : ¬ k = (2 : Int32)) => ?_) (fun (g2 : k = (2 : Int32)) => ?_)
      · skip
        refine Go.iconst K (q := 165) rfl (v := (3 : Int32)) (by decide) d22_164 ?_
        refine Go.newarr K (q := 167) rfl (hw _ (List.mem_of_getElem? (i := 51) rfl)) d22_165 (by decide) (cap := 3) (by decide) (by decide) (cells' := 1) (slots' := 3) rfl rfl (by decide) (by decide) ?_
        intro h1 ca k_ca g_ca N_ca V_ca
        have V_ca : Arv Z h1 ca k_ca .char (3 : Int32) [(.int (0 : Int32)), (.int (0 : Int32)), (.int (0 : Int32))] (.int (0 : Int32)) := V_ca
        have ge_E0_ca : h.size ≤ ca := Nat.le_trans E0.1 (Nat.le_of_eq g_ca.symm)
        have E0 := Ext.trans E0 N_ca
        have n_ca : n0 ≤ ca := Nat.le_trans Z0 ge_E0_ca
        refine Go.dup K (q := 168) rfl d22_167 rfl ?_
        refine Go.iconst K (q := 169) rfl (v := (0 : Int32)) (by decide) d22_168 ?_
        refine Go.bipush K (q := 171) rfl (v := (110 : Int32)) (by decide) d22_169 ?_
        refine Go.castore K (q := 172) rfl V_ca (i := 0) d22_171 ⟨by decide, by decide⟩ rfl (Nat.le_of_ble_eq_true rfl) n_ca List.mem_cons_self ?_
        intro h2 W3 V_ca
        have E0 := Ext.wr E0 W3 ge_E0_ca
        refine Go.dup K (q := 173) rfl d22_172 rfl ?_
        refine Go.iconst K (q := 174) rfl (v := (1 : Int32)) (by decide) d22_173 ?_
        refine Go.bipush K (q := 176) rfl (v := (97 : Int32)) (by decide) d22_174 ?_
        refine Go.castore K (q := 177) rfl V_ca (i := 1) d22_176 ⟨by decide, by decide⟩ rfl (Nat.le_of_ble_eq_true rfl) n_ca List.mem_cons_self ?_
        intro h4 W5 V_ca
        have E0 := Ext.wr E0 W5 ge_E0_ca
        refine Go.dup K (q := 178) rfl d22_177 rfl ?_
        refine Go.iconst K (q := 179) rfl (v := (2 : Int32)) (by decide) d22_178 ?_
        refine Go.bipush K (q := 181) rfl (v := (109 : Int32)) (by decide) d22_179 ?_
        refine Go.castore K (q := 182) rfl V_ca (i := 2) d22_181 ⟨by decide, by decide⟩ rfl (Nat.le_of_ble_eq_true rfl) n_ca List.mem_cons_self ?_
        intro h6 W7 V_ca
        have E0 := Ext.wr E0 W7 ge_E0_ca
        refine Go.astoreN K (q := 183) rfl (L' := #[.val (.int k), .val (.ref ca)]) d22_182 rfl rfl ?_
        show Go p l e _ s m _ below meth c _ _ _ _ _ _ _ _ _ h6 1 3 (mkF m 183 #[.val (.int k), .val (.ref ca)] [])
        rw [show nar .char (97 : Int32) = (97 : Int32) from by decide, show nar .char (109 : Int32) = (109 : Int32) from by decide, show nar .char (110 : Int32) = (110 : Int32) from by decide] at V_ca
        have V_ca : Arv Z h6 ca k_ca .char (3 : Int32) (([(110 : Int32), (97 : Int32), (109 : Int32)] : List Int32).map Value.int) (.int (0 : Int32)) := V_ca
        have hp8 : ∀ c ∈ ([(110 : Int32), (97 : Int32), (109 : Int32)] : List Int32), ¬ c < 0 ∧ ¬ (255 : Int32) < c := by decide
        refine Go.new K (q := 186) rfl (hw _ (List.mem_of_getElem? (i := 52) rfl)) (hw _ (List.mem_of_getElem? (i := 6) rfl)) (hw _ (List.mem_of_getElem? (i := 5) rfl)) d22_183 (cells' := 2) (slots' := 7) rfl rfl (by decide) (by decide) ?_
        intro h10 a9 g_a9 N_a9 X_a9 D_a9
        have ge_E0_a9 : h.size ≤ a9 := Nat.le_trans E0.1 (Nat.le_of_eq g_a9.symm)
        have E0 := Ext.trans E0 N_a9
        have Fv_a9 : Fld Z h10 a9 "java/lang/String" "value" "[B" .null := D_a9 (Or.inr (hw _ (List.mem_of_getElem? (i := 8) rfl))) (ty := .array .byte) (by decide)
        have Fc_a9 : Fld Z h10 a9 "java/lang/String" "coder" "B" (.int (0 : Int32)) := D_a9 (Or.inr (hw _ (List.mem_of_getElem? (i := 9) rfl))) (ty := .byte) (by decide)
        have n_a9 : n0 ≤ a9 := Nat.le_trans Z0 ge_E0_a9
        refine Go.dup K (q := 187) rfl d22_186 rfl ?_
        refine Go.aloadN K (q := 188) rfl d22_187 rfl rfl ?_
        have V_ca := V_ca.ext N_a9
        refine Go.newStr K (q := 191) rfl (own_words hw) (hw _ (List.mem_of_getElem? (i := 6) rfl)) (hw _ (List.mem_of_getElem? (i := 53) rfl)) (hw _ (List.mem_of_getElem? (i := 54) rfl)) (hw _ (List.mem_of_getElem? (i := 55) rfl)) (cs := [(110 : Int32), (97 : Int32), (109 : Int32)]) n_a9 (Nat.le_trans Z0 E0.1) X_a9 Fv_a9 Fc_a9 V_ca (Sa.ext E0) hz (n := 3) (by simp) rfl (by decide) (by decide) hp8 d22_188 List.mem_cons_self (by decide) rfl (W := 1) (Nat.le_of_eq rfl) (by decide) (cells' := 3) (slots' := 10) rfl rfl (by decide) (by decide) ?_
        intro h11 K12 S_a9
        have E0 := Ext.keep E0 K12 (allS ge_E0_a9 all0)
        exact Go.retA K rfl rfl d22_191 (by decide) (by decide) (fun _ q => (List.mem_cons_of_mem _ (List.mem_cons_of_mem _ q))) (⟨a9, rfl, E0, by rw [own_tr, if_neg g0, if_neg g1, if_neg g2]; exact S_a9⟩)
      · skip
        refine Go.bipush K (q := 122) rfl (v := (6 : Int32)) (by decide) d22_120 ?_
        refine Go.newarr K (q := 124) rfl (hw _ (List.mem_of_getElem? (i := 51) rfl)) d22_122 (by decide) (cap := 6) (by decide) (by decide) (cells' := 1) (slots' := 6) rfl rfl (by decide) (by decide) ?_
        intro h13 ca k_ca g_ca N_ca V_ca
        have V_ca : Arv Z h13 ca k_ca .char (6 : Int32) [(.int (0 : Int32)), (.int (0 : Int32)), (.int (0 : Int32)), (.int (0 : Int32)), (.int (0 : Int32)), (.int (0 : Int32))] (.int (0 : Int32)) := V_ca
        have ge_E0_ca : h.size ≤ ca := Nat.le_trans E0.1 (Nat.le_of_eq g_ca.symm)
        have E0 := Ext.trans E0 N_ca
        have n_ca : n0 ≤ ca := Nat.le_trans Z0 ge_E0_ca
        refine Go.dup K (q := 125) rfl d22_124 rfl ?_
        refine Go.iconst K (q := 126) rfl (v := (0 : Int32)) (by decide) d22_125 ?_
        refine Go.bipush K (q := 128) rfl (v := (100 : Int32)) (by decide) d22_126 ?_
        refine Go.castore K (q := 129) rfl V_ca (i := 0) d22_128 ⟨by decide, by decide⟩ rfl (Nat.le_of_ble_eq_true rfl) n_ca List.mem_cons_self ?_
        intro h14 W15 V_ca
        have E0 := Ext.wr E0 W15 ge_E0_ca
        refine Go.dup K (q := 130) rfl d22_129 rfl ?_
        refine Go.iconst K (q := 131) rfl (v := (1 : Int32)) (by decide) d22_130 ?_
        refine Go.bipush K (q := 133) rfl (v := (117 : Int32)) (by decide) d22_131 ?_
        refine Go.castore K (q := 134) rfl V_ca (i := 1) d22_133 ⟨by decide, by decide⟩ rfl (Nat.le_of_ble_eq_true rfl) n_ca List.mem_cons_self ?_
        intro h16 W17 V_ca
        have E0 := Ext.wr E0 W17 ge_E0_ca
        refine Go.dup K (q := 135) rfl d22_134 rfl ?_
        refine Go.iconst K (q := 136) rfl (v := (2 : Int32)) (by decide) d22_135 ?_
        refine Go.bipush K (q := 138) rfl (v := (101 : Int32)) (by decide) d22_136 ?_
        refine Go.castore K (q := 139) rfl V_ca (i := 2) d22_138 ⟨by decide, by decide⟩ rfl (Nat.le_of_ble_eq_true rfl) n_ca List.mem_cons_self ?_
        intro h18 W19 V_ca
        have E0 := Ext.wr E0 W19 ge_E0_ca
        refine Go.dup K (q := 140) rfl d22_139 rfl ?_
        refine Go.iconst K (q := 141) rfl (v := (3 : Int32)) (by decide) d22_140 ?_
        refine Go.bipush K (q := 143) rfl (v := (68 : Int32)) (by decide) d22_141 ?_
        refine Go.castore K (q := 144) rfl V_ca (i := 3) d22_143 ⟨by decide, by decide⟩ rfl (Nat.le_of_ble_eq_true rfl) n_ca List.mem_cons_self ?_
        intro h20 W21 V_ca
        have E0 := Ext.wr E0 W21 ge_E0_ca
        refine Go.dup K (q := 145) rfl d22_144 rfl ?_
        refine Go.iconst K (q := 146) rfl (v := (4 : Int32)) (by decide) d22_145 ?_
        refine Go.bipush K (q := 148) rfl (v := (97 : Int32)) (by decide) d22_146 ?_
        refine Go.castore K (q := 149) rfl V_ca (i := 4) d22_148 ⟨by decide, by decide⟩ rfl (Nat.le_of_ble_eq_true rfl) n_ca List.mem_cons_self ?_
        intro h22 W23 V_ca
        have E0 := Ext.wr E0 W23 ge_E0_ca
        refine Go.dup K (q := 150) rfl d22_149 rfl ?_
        refine Go.iconst K (q := 151) rfl (v := (5 : Int32)) (by decide) d22_150 ?_
        refine Go.bipush K (q := 153) rfl (v := (116 : Int32)) (by decide) d22_151 ?_
        refine Go.castore K (q := 154) rfl V_ca (i := 5) d22_153 ⟨by decide, by decide⟩ rfl (Nat.le_of_ble_eq_true rfl) n_ca List.mem_cons_self ?_
        intro h24 W25 V_ca
        have E0 := Ext.wr E0 W25 ge_E0_ca
        refine Go.astoreN K (q := 155) rfl (L' := #[.val (.int k), .val (.ref ca)]) d22_154 rfl rfl ?_
        show Go p l e _ s m _ below meth c _ _ _ _ _ _ _ _ _ h24 1 6 (mkF m 155 #[.val (.int k), .val (.ref ca)] [])
        rw [show nar .char (68 : Int32) = (68 : Int32) from by decide, show nar .char (97 : Int32) = (97 : Int32) from by decide, show nar .char (100 : Int32) = (100 : Int32) from by decide, show nar .char (101 : Int32) = (101 : Int32) from by decide, show nar .char (116 : Int32) = (116 : Int32) from by decide, show nar .char (117 : Int32) = (117 : Int32) from by decide] at V_ca
        have V_ca : Arv Z h24 ca k_ca .char (6 : Int32) (([(100 : Int32), (117 : Int32), (101 : Int32), (68 : Int32), (97 : Int32), (116 : Int32)] : List Int32).map Value.int) (.int (0 : Int32)) := V_ca
        have hp26 : ∀ c ∈ ([(100 : Int32), (117 : Int32), (101 : Int32), (68 : Int32), (97 : Int32), (116 : Int32)] : List Int32), ¬ c < 0 ∧ ¬ (255 : Int32) < c := by decide
        refine Go.new K (q := 158) rfl (hw _ (List.mem_of_getElem? (i := 52) rfl)) (hw _ (List.mem_of_getElem? (i := 6) rfl)) (hw _ (List.mem_of_getElem? (i := 5) rfl)) d22_155 (cells' := 2) (slots' := 10) rfl rfl (by decide) (by decide) ?_
        intro h28 a27 g_a27 N_a27 X_a27 D_a27
        have ge_E0_a27 : h.size ≤ a27 := Nat.le_trans E0.1 (Nat.le_of_eq g_a27.symm)
        have E0 := Ext.trans E0 N_a27
        have Fv_a27 : Fld Z h28 a27 "java/lang/String" "value" "[B" .null := D_a27 (Or.inr (hw _ (List.mem_of_getElem? (i := 8) rfl))) (ty := .array .byte) (by decide)
        have Fc_a27 : Fld Z h28 a27 "java/lang/String" "coder" "B" (.int (0 : Int32)) := D_a27 (Or.inr (hw _ (List.mem_of_getElem? (i := 9) rfl))) (ty := .byte) (by decide)
        have n_a27 : n0 ≤ a27 := Nat.le_trans Z0 ge_E0_a27
        refine Go.dup K (q := 159) rfl d22_158 rfl ?_
        refine Go.aloadN K (q := 160) rfl d22_159 rfl rfl ?_
        have V_ca := V_ca.ext N_a27
        refine Go.newStr K (q := 163) rfl (own_words hw) (hw _ (List.mem_of_getElem? (i := 6) rfl)) (hw _ (List.mem_of_getElem? (i := 53) rfl)) (hw _ (List.mem_of_getElem? (i := 54) rfl)) (hw _ (List.mem_of_getElem? (i := 55) rfl)) (cs := [(100 : Int32), (117 : Int32), (101 : Int32), (68 : Int32), (97 : Int32), (116 : Int32)]) n_a27 (Nat.le_trans Z0 E0.1) X_a27 Fv_a27 Fc_a27 V_ca (Sa.ext E0) hz (n := 6) (by simp) rfl (by decide) (by decide) hp26 d22_160 List.mem_cons_self (by decide) rfl (W := 1) (Nat.le_of_eq rfl) (by decide) (cells' := 3) (slots' := 16) rfl rfl (by decide) (by decide) ?_
        intro h29 K30 S_a27
        have E0 := Ext.keep E0 K30 (allS ge_E0_a27 all0)
        exact Go.retA K rfl rfl d22_163 (by decide) (by decide) (fun _ q => (List.mem_cons_of_mem _ (List.mem_cons_of_mem _ q))) (⟨a27, rfl, E0, by rw [own_tr, if_neg g0, if_neg g1, if_pos g2]; exact S_a27⟩)
    · skip
      refine Go.bipush K (q := 67) rfl (v := (7 : Int32)) (by decide) d22_65 ?_
      refine Go.newarr K (q := 69) rfl (hw _ (List.mem_of_getElem? (i := 51) rfl)) d22_67 (by decide) (cap := 7) (by decide) (by decide) (cells' := 1) (slots' := 7) rfl rfl (by decide) (by decide) ?_
      intro h31 ca k_ca g_ca N_ca V_ca
      have V_ca : Arv Z h31 ca k_ca .char (7 : Int32) [(.int (0 : Int32)), (.int (0 : Int32)), (.int (0 : Int32)), (.int (0 : Int32)), (.int (0 : Int32)), (.int (0 : Int32)), (.int (0 : Int32))] (.int (0 : Int32)) := V_ca
      have ge_E0_ca : h.size ≤ ca := Nat.le_trans E0.1 (Nat.le_of_eq g_ca.symm)
      have E0 := Ext.trans E0 N_ca
      have n_ca : n0 ≤ ca := Nat.le_trans Z0 ge_E0_ca
      refine Go.dup K (q := 70) rfl d22_69 rfl ?_
      refine Go.iconst K (q := 71) rfl (v := (0 : Int32)) (by decide) d22_70 ?_
      refine Go.bipush K (q := 73) rfl (v := (112 : Int32)) (by decide) d22_71 ?_
      refine Go.castore K (q := 74) rfl V_ca (i := 0) d22_73 ⟨by decide, by decide⟩ rfl (Nat.le_of_ble_eq_true rfl) n_ca List.mem_cons_self ?_
      intro h32 W33 V_ca
      have E0 := Ext.wr E0 W33 ge_E0_ca
      refine Go.dup K (q := 75) rfl d22_74 rfl ?_
      refine Go.iconst K (q := 76) rfl (v := (1 : Int32)) (by decide) d22_75 ?_
      refine Go.bipush K (q := 78) rfl (v := (114 : Int32)) (by decide) d22_76 ?_
      refine Go.castore K (q := 79) rfl V_ca (i := 1) d22_78 ⟨by decide, by decide⟩ rfl (Nat.le_of_ble_eq_true rfl) n_ca List.mem_cons_self ?_
      intro h34 W35 V_ca
      have E0 := Ext.wr E0 W35 ge_E0_ca
      refine Go.dup K (q := 80) rfl d22_79 rfl ?_
      refine Go.iconst K (q := 81) rfl (v := (2 : Int32)) (by decide) d22_80 ?_
      refine Go.bipush K (q := 83) rfl (v := (105 : Int32)) (by decide) d22_81 ?_
      refine Go.castore K (q := 84) rfl V_ca (i := 2) d22_83 ⟨by decide, by decide⟩ rfl (Nat.le_of_ble_eq_true rfl) n_ca List.mem_cons_self ?_
      intro h36 W37 V_ca
      have E0 := Ext.wr E0 W37 ge_E0_ca
      refine Go.dup K (q := 85) rfl d22_84 rfl ?_
      refine Go.iconst K (q := 86) rfl (v := (3 : Int32)) (by decide) d22_85 ?_
      refine Go.bipush K (q := 88) rfl (v := (111 : Int32)) (by decide) d22_86 ?_
      refine Go.castore K (q := 89) rfl V_ca (i := 3) d22_88 ⟨by decide, by decide⟩ rfl (Nat.le_of_ble_eq_true rfl) n_ca List.mem_cons_self ?_
      intro h38 W39 V_ca
      have E0 := Ext.wr E0 W39 ge_E0_ca
      refine Go.dup K (q := 90) rfl d22_89 rfl ?_
      refine Go.iconst K (q := 91) rfl (v := (4 : Int32)) (by decide) d22_90 ?_
      refine Go.bipush K (q := 93) rfl (v := (114 : Int32)) (by decide) d22_91 ?_
      refine Go.castore K (q := 94) rfl V_ca (i := 4) d22_93 ⟨by decide, by decide⟩ rfl (Nat.le_of_ble_eq_true rfl) n_ca List.mem_cons_self ?_
      intro h40 W41 V_ca
      have E0 := Ext.wr E0 W41 ge_E0_ca
      refine Go.dup K (q := 95) rfl d22_94 rfl ?_
      refine Go.iconst K (q := 96) rfl (v := (5 : Int32)) (by decide) d22_95 ?_
      refine Go.bipush K (q := 98) rfl (v := (105 : Int32)) (by decide) d22_96 ?_
      refine Go.castore K (q := 99) rfl V_ca (i := 5) d22_98 ⟨by decide, by decide⟩ rfl (Nat.le_of_ble_eq_true rfl) n_ca List.mem_cons_self ?_
      intro h42 W43 V_ca
      have E0 := Ext.wr E0 W43 ge_E0_ca
      refine Go.dup K (q := 100) rfl d22_99 rfl ?_
      refine Go.bipush K (q := 102) rfl (v := (6 : Int32)) (by decide) d22_100 ?_
      refine Go.bipush K (q := 104) rfl (v := (116 : Int32)) (by decide) d22_102 ?_
      refine Go.castore K (q := 105) rfl V_ca (i := 6) d22_104 ⟨by decide, by decide⟩ rfl (Nat.le_of_ble_eq_true rfl) n_ca List.mem_cons_self ?_
      intro h44 W45 V_ca
      have E0 := Ext.wr E0 W45 ge_E0_ca
      refine Go.astoreN K (q := 106) rfl (L' := #[.val (.int k), .val (.ref ca)]) d22_105 rfl rfl ?_
      show Go p l e _ s m _ below meth c _ _ _ _ _ _ _ _ _ h44 1 7 (mkF m 106 #[.val (.int k), .val (.ref ca)] [])
      rw [show nar .char (105 : Int32) = (105 : Int32) from by decide, show nar .char (111 : Int32) = (111 : Int32) from by decide, show nar .char (112 : Int32) = (112 : Int32) from by decide, show nar .char (114 : Int32) = (114 : Int32) from by decide, show nar .char (116 : Int32) = (116 : Int32) from by decide] at V_ca
      have V_ca : Arv Z h44 ca k_ca .char (7 : Int32) (([(112 : Int32), (114 : Int32), (105 : Int32), (111 : Int32), (114 : Int32), (105 : Int32), (116 : Int32)] : List Int32).map Value.int) (.int (0 : Int32)) := V_ca
      have hp46 : ∀ c ∈ ([(112 : Int32), (114 : Int32), (105 : Int32), (111 : Int32), (114 : Int32), (105 : Int32), (116 : Int32)] : List Int32), ¬ c < 0 ∧ ¬ (255 : Int32) < c := by decide
      refine Go.new K (q := 109) rfl (hw _ (List.mem_of_getElem? (i := 52) rfl)) (hw _ (List.mem_of_getElem? (i := 6) rfl)) (hw _ (List.mem_of_getElem? (i := 5) rfl)) d22_106 (cells' := 2) (slots' := 11) rfl rfl (by decide) (by decide) ?_
      intro h48 a47 g_a47 N_a47 X_a47 D_a47
      have ge_E0_a47 : h.size ≤ a47 := Nat.le_trans E0.1 (Nat.le_of_eq g_a47.symm)
      have E0 := Ext.trans E0 N_a47
      have Fv_a47 : Fld Z h48 a47 "java/lang/String" "value" "[B" .null := D_a47 (Or.inr (hw _ (List.mem_of_getElem? (i := 8) rfl))) (ty := .array .byte) (by decide)
      have Fc_a47 : Fld Z h48 a47 "java/lang/String" "coder" "B" (.int (0 : Int32)) := D_a47 (Or.inr (hw _ (List.mem_of_getElem? (i := 9) rfl))) (ty := .byte) (by decide)
      have n_a47 : n0 ≤ a47 := Nat.le_trans Z0 ge_E0_a47
      refine Go.dup K (q := 110) rfl d22_109 rfl ?_
      refine Go.aloadN K (q := 111) rfl d22_110 rfl rfl ?_
      have V_ca := V_ca.ext N_a47
      refine Go.newStr K (q := 114) rfl (own_words hw) (hw _ (List.mem_of_getElem? (i := 6) rfl)) (hw _ (List.mem_of_getElem? (i := 53) rfl)) (hw _ (List.mem_of_getElem? (i := 54) rfl)) (hw _ (List.mem_of_getElem? (i := 55) rfl)) (cs := [(112 : Int32), (114 : Int32), (105 : Int32), (111 : Int32), (114 : Int32), (105 : Int32), (116 : Int32)]) n_a47 (Nat.le_trans Z0 E0.1) X_a47 Fv_a47 Fc_a47 V_ca (Sa.ext E0) hz (n := 7) (by simp) rfl (by decide) (by decide) hp46 d22_111 List.mem_cons_self (by decide) rfl (W := 1) (Nat.le_of_eq rfl) (by decide) (cells' := 3) (slots' := 18) rfl rfl (by decide) (by decide) ?_
      intro h49 K50 S_a47
      have E0 := Ext.keep E0 K50 (allS ge_E0_a47 all0)
      exact Go.retA K rfl rfl d22_114 (by decide) (by decide) (fun _ q => (List.mem_cons_of_mem _ (List.mem_cons_of_mem _ q))) (⟨a47, rfl, E0, by rw [own_tr, if_neg g0, if_pos g1]; exact S_a47⟩)
  · skip
    refine Go.bipush K (q := 6) rfl (v := (8 : Int32)) (by decide) d22_4 ?_
    refine Go.newarr K (q := 8) rfl (hw _ (List.mem_of_getElem? (i := 51) rfl)) d22_6 (by decide) (cap := 8) (by decide) (by decide) (cells' := 1) (slots' := 8) rfl rfl (by decide) (by decide) ?_
    intro h51 ca k_ca g_ca N_ca V_ca
    have V_ca : Arv Z h51 ca k_ca .char (8 : Int32) [(.int (0 : Int32)), (.int (0 : Int32)), (.int (0 : Int32)), (.int (0 : Int32)), (.int (0 : Int32)), (.int (0 : Int32)), (.int (0 : Int32)), (.int (0 : Int32))] (.int (0 : Int32)) := V_ca
    have ge_E0_ca : h.size ≤ ca := Nat.le_trans E0.1 (Nat.le_of_eq g_ca.symm)
    have E0 := Ext.trans E0 N_ca
    have n_ca : n0 ≤ ca := Nat.le_trans Z0 ge_E0_ca
    refine Go.dup K (q := 9) rfl d22_8 rfl ?_
    refine Go.iconst K (q := 10) rfl (v := (0 : Int32)) (by decide) d22_9 ?_
    refine Go.bipush K (q := 12) rfl (v := (99 : Int32)) (by decide) d22_10 ?_
    refine Go.castore K (q := 13) rfl V_ca (i := 0) d22_12 ⟨by decide, by decide⟩ rfl (Nat.le_of_ble_eq_true rfl) n_ca List.mem_cons_self ?_
    intro h52 W53 V_ca
    have E0 := Ext.wr E0 W53 ge_E0_ca
    refine Go.dup K (q := 14) rfl d22_13 rfl ?_
    refine Go.iconst K (q := 15) rfl (v := (1 : Int32)) (by decide) d22_14 ?_
    refine Go.bipush K (q := 17) rfl (v := (114 : Int32)) (by decide) d22_15 ?_
    refine Go.castore K (q := 18) rfl V_ca (i := 1) d22_17 ⟨by decide, by decide⟩ rfl (Nat.le_of_ble_eq_true rfl) n_ca List.mem_cons_self ?_
    intro h54 W55 V_ca
    have E0 := Ext.wr E0 W55 ge_E0_ca
    refine Go.dup K (q := 19) rfl d22_18 rfl ?_
    refine Go.iconst K (q := 20) rfl (v := (2 : Int32)) (by decide) d22_19 ?_
    refine Go.bipush K (q := 22) rfl (v := (101 : Int32)) (by decide) d22_20 ?_
    refine Go.castore K (q := 23) rfl V_ca (i := 2) d22_22 ⟨by decide, by decide⟩ rfl (Nat.le_of_ble_eq_true rfl) n_ca List.mem_cons_self ?_
    intro h56 W57 V_ca
    have E0 := Ext.wr E0 W57 ge_E0_ca
    refine Go.dup K (q := 24) rfl d22_23 rfl ?_
    refine Go.iconst K (q := 25) rfl (v := (3 : Int32)) (by decide) d22_24 ?_
    refine Go.bipush K (q := 27) rfl (v := (97 : Int32)) (by decide) d22_25 ?_
    refine Go.castore K (q := 28) rfl V_ca (i := 3) d22_27 ⟨by decide, by decide⟩ rfl (Nat.le_of_ble_eq_true rfl) n_ca List.mem_cons_self ?_
    intro h58 W59 V_ca
    have E0 := Ext.wr E0 W59 ge_E0_ca
    refine Go.dup K (q := 29) rfl d22_28 rfl ?_
    refine Go.iconst K (q := 30) rfl (v := (4 : Int32)) (by decide) d22_29 ?_
    refine Go.bipush K (q := 32) rfl (v := (116 : Int32)) (by decide) d22_30 ?_
    refine Go.castore K (q := 33) rfl V_ca (i := 4) d22_32 ⟨by decide, by decide⟩ rfl (Nat.le_of_ble_eq_true rfl) n_ca List.mem_cons_self ?_
    intro h60 W61 V_ca
    have E0 := Ext.wr E0 W61 ge_E0_ca
    refine Go.dup K (q := 34) rfl d22_33 rfl ?_
    refine Go.iconst K (q := 35) rfl (v := (5 : Int32)) (by decide) d22_34 ?_
    refine Go.bipush K (q := 37) rfl (v := (101 : Int32)) (by decide) d22_35 ?_
    refine Go.castore K (q := 38) rfl V_ca (i := 5) d22_37 ⟨by decide, by decide⟩ rfl (Nat.le_of_ble_eq_true rfl) n_ca List.mem_cons_self ?_
    intro h62 W63 V_ca
    have E0 := Ext.wr E0 W63 ge_E0_ca
    refine Go.dup K (q := 39) rfl d22_38 rfl ?_
    refine Go.bipush K (q := 41) rfl (v := (6 : Int32)) (by decide) d22_39 ?_
    refine Go.bipush K (q := 43) rfl (v := (100 : Int32)) (by decide) d22_41 ?_
    refine Go.castore K (q := 44) rfl V_ca (i := 6) d22_43 ⟨by decide, by decide⟩ rfl (Nat.le_of_ble_eq_true rfl) n_ca List.mem_cons_self ?_
    intro h64 W65 V_ca
    have E0 := Ext.wr E0 W65 ge_E0_ca
    refine Go.dup K (q := 45) rfl d22_44 rfl ?_
    refine Go.bipush K (q := 47) rfl (v := (7 : Int32)) (by decide) d22_45 ?_
    refine Go.bipush K (q := 49) rfl (v := (65 : Int32)) (by decide) d22_47 ?_
    refine Go.castore K (q := 50) rfl V_ca (i := 7) d22_49 ⟨by decide, by decide⟩ rfl (Nat.le_of_ble_eq_true rfl) n_ca List.mem_cons_self ?_
    intro h66 W67 V_ca
    have E0 := Ext.wr E0 W67 ge_E0_ca
    refine Go.astoreN K (q := 51) rfl (L' := #[.val (.int k), .val (.ref ca)]) d22_50 rfl rfl ?_
    show Go p l e _ s m _ below meth c _ _ _ _ _ _ _ _ _ h66 1 8 (mkF m 51 #[.val (.int k), .val (.ref ca)] [])
    rw [show nar .char (65 : Int32) = (65 : Int32) from by decide, show nar .char (97 : Int32) = (97 : Int32) from by decide, show nar .char (99 : Int32) = (99 : Int32) from by decide, show nar .char (100 : Int32) = (100 : Int32) from by decide, show nar .char (101 : Int32) = (101 : Int32) from by decide, show nar .char (114 : Int32) = (114 : Int32) from by decide, show nar .char (116 : Int32) = (116 : Int32) from by decide] at V_ca
    have V_ca : Arv Z h66 ca k_ca .char (8 : Int32) (([(99 : Int32), (114 : Int32), (101 : Int32), (97 : Int32), (116 : Int32), (101 : Int32), (100 : Int32), (65 : Int32)] : List Int32).map Value.int) (.int (0 : Int32)) := V_ca
    have hp68 : ∀ c ∈ ([(99 : Int32), (114 : Int32), (101 : Int32), (97 : Int32), (116 : Int32), (101 : Int32), (100 : Int32), (65 : Int32)] : List Int32), ¬ c < 0 ∧ ¬ (255 : Int32) < c := by decide
    refine Go.new K (q := 54) rfl (hw _ (List.mem_of_getElem? (i := 52) rfl)) (hw _ (List.mem_of_getElem? (i := 6) rfl)) (hw _ (List.mem_of_getElem? (i := 5) rfl)) d22_51 (cells' := 2) (slots' := 12) rfl rfl (by decide) (by decide) ?_
    intro h70 a69 g_a69 N_a69 X_a69 D_a69
    have ge_E0_a69 : h.size ≤ a69 := Nat.le_trans E0.1 (Nat.le_of_eq g_a69.symm)
    have E0 := Ext.trans E0 N_a69
    have Fv_a69 : Fld Z h70 a69 "java/lang/String" "value" "[B" .null := D_a69 (Or.inr (hw _ (List.mem_of_getElem? (i := 8) rfl))) (ty := .array .byte) (by decide)
    have Fc_a69 : Fld Z h70 a69 "java/lang/String" "coder" "B" (.int (0 : Int32)) := D_a69 (Or.inr (hw _ (List.mem_of_getElem? (i := 9) rfl))) (ty := .byte) (by decide)
    have n_a69 : n0 ≤ a69 := Nat.le_trans Z0 ge_E0_a69
    refine Go.dup K (q := 55) rfl d22_54 rfl ?_
    refine Go.aloadN K (q := 56) rfl d22_55 rfl rfl ?_
    have V_ca := V_ca.ext N_a69
    refine Go.newStr K (q := 59) rfl (own_words hw) (hw _ (List.mem_of_getElem? (i := 6) rfl)) (hw _ (List.mem_of_getElem? (i := 53) rfl)) (hw _ (List.mem_of_getElem? (i := 54) rfl)) (hw _ (List.mem_of_getElem? (i := 55) rfl)) (cs := [(99 : Int32), (114 : Int32), (101 : Int32), (97 : Int32), (116 : Int32), (101 : Int32), (100 : Int32), (65 : Int32)]) n_a69 (Nat.le_trans Z0 E0.1) X_a69 Fv_a69 Fc_a69 V_ca (Sa.ext E0) hz (n := 8) (by simp) rfl (by decide) (by decide) hp68 d22_56 List.mem_cons_self (by decide) rfl (W := 1) (Nat.le_of_eq rfl) (by decide) (cells' := 3) (slots' := 20) rfl rfl (by decide) (by decide) ?_
    intro h71 K72 S_a69
    have E0 := Ext.keep E0 K72 (allS ge_E0_a69 all0)
    exact Go.retA K rfl rfl d22_59 (by decide) (by decide) (fun _ q => (List.mem_cons_of_mem _ (List.mem_cons_of_mem _ q))) (⟨a69, rfl, E0, by rw [own_tr, if_pos g0]; exact S_a69⟩)
set_option maxRecDepth 65536 in
set_option maxHeartbeats 40000000 in
theorem c_ext (l : Launch) (Z : State) (a0 : Array Value) (hw : ∀ d ∈ tables_1, d.before a0 Z = true) (xs : List Addr) (n0 : Nat) (h : Heap) (Z0 : n0 ≤ h.size) (k cc : Int32) (hcc : ¬ cc < 0 ∧ ¬ (255 : Int32) < cc) (z : Int32) (Sa : Sta Z h "java/lang/String" "COMPACT_STRINGS" "Z" (.int z)) (hz : ¬ z = 0) :
    Ctr l Z consts_1 xs n0 (⟨"com/example/tasklane/tasklane/engine/TaskSortFromIdPinLaw", "extended", "(IC)Ljava/lang/String;"⟩ : MethodName) method_7_code 3 (some (.object "java/lang/String")) [] ({ frames := 4, cells := 3, slots := 24, locals := 66 } : Room) #[(.int k), (.int cc)] h (fun v h' => ∃ a, v = some (.ref a) ∧ Ext h h' ∧ Str Z h' a (own_nm k ++ [cc])) := by
  refine Ctr.body pn11 ?_
  intro p e s m below meth c K
  refine Go.entry (f' := (mkF m 0 #[.val (.int k), .val (.int cc), .unset] [])) (by first | (simp [entryFrame, mkF, argsToLocals, Value.category]; done) | rfl) ?_
  have E0 := Ext.refl h
  refine Go.iloadN K (q := 1) rfl d23_0 rfl ?_
  refine Go.ifc K (q := 71) (q' := 4) (by decide) (by decide) rfl d23_1 (fun (g0 : ¬ k = (0 : Int32)) => ?_) (fun (g0 : k = (0 : Int32)) => ?_)
  · skip
    refine Go.iloadN K (q := 72) rfl d23_71 rfl ?_
    refine Go.iconst K (q := 73) rfl (v := (1 : Int32)) (by decide) d23_72 ?_
    refine Go.icmp K (q := 137) (q' := 76) (by decide) (by decide) rfl d23_73 (fun (g1 : ¬ k = (1 : Int32)) => ?_) (fun (g1 : k = (1 : Int32)) => ?_)
    · skip
      refine Go.iloadN K (q := 138) rfl d23_137 rfl ?_
      refine Go.iconst K (q := 139) rfl (v := (2 : Int32)) (by decide) d23_138 ?_
      refine Go.icmp K (q := 197) (q' := 142) (by decide) (by decide) rfl d23_139 (fun (g2 : ¬ k = (2 : Int32)) => ?_) (fun (g2 : k = (2 : Int32)) => ?_)
      · skip
        refine Go.iconst K (q := 198) rfl (v := (5 : Int32)) (by decide) d23_197 ?_
        refine Go.newarr K (q := 200) rfl (hw _ (List.mem_of_getElem? (i := 51) rfl)) d23_198 (by decide) (cap := 5) (by decide) (by decide) (cells' := 1) (slots' := 5) rfl rfl (by decide) (by decide) ?_
        intro h1 ca k_ca g_ca N_ca V_ca
        have V_ca : Arv Z h1 ca k_ca .char (5 : Int32) [(.int (0 : Int32)), (.int (0 : Int32)), (.int (0 : Int32)), (.int (0 : Int32)), (.int (0 : Int32))] (.int (0 : Int32)) := V_ca
        have ge_E0_ca : h.size ≤ ca := Nat.le_trans E0.1 (Nat.le_of_eq g_ca.symm)
        have E0 := Ext.trans E0 N_ca
        have n_ca : n0 ≤ ca := Nat.le_trans Z0 ge_E0_ca
        refine Go.dup K (q := 201) rfl d23_200 rfl ?_
        refine Go.iconst K (q := 202) rfl (v := (0 : Int32)) (by decide) d23_201 ?_
        refine Go.bipush K (q := 204) rfl (v := (110 : Int32)) (by decide) d23_202 ?_
        refine Go.castore K (q := 205) rfl V_ca (i := 0) d23_204 ⟨by decide, by decide⟩ rfl (Nat.le_of_ble_eq_true rfl) n_ca List.mem_cons_self ?_
        intro h2 W3 V_ca
        have E0 := Ext.wr E0 W3 ge_E0_ca
        refine Go.dup K (q := 206) rfl d23_205 rfl ?_
        refine Go.iconst K (q := 207) rfl (v := (1 : Int32)) (by decide) d23_206 ?_
        refine Go.bipush K (q := 209) rfl (v := (97 : Int32)) (by decide) d23_207 ?_
        refine Go.castore K (q := 210) rfl V_ca (i := 1) d23_209 ⟨by decide, by decide⟩ rfl (Nat.le_of_ble_eq_true rfl) n_ca List.mem_cons_self ?_
        intro h4 W5 V_ca
        have E0 := Ext.wr E0 W5 ge_E0_ca
        refine Go.dup K (q := 211) rfl d23_210 rfl ?_
        refine Go.iconst K (q := 212) rfl (v := (2 : Int32)) (by decide) d23_211 ?_
        refine Go.bipush K (q := 214) rfl (v := (109 : Int32)) (by decide) d23_212 ?_
        refine Go.castore K (q := 215) rfl V_ca (i := 2) d23_214 ⟨by decide, by decide⟩ rfl (Nat.le_of_ble_eq_true rfl) n_ca List.mem_cons_self ?_
        intro h6 W7 V_ca
        have E0 := Ext.wr E0 W7 ge_E0_ca
        refine Go.dup K (q := 216) rfl d23_215 rfl ?_
        refine Go.iconst K (q := 217) rfl (v := (3 : Int32)) (by decide) d23_216 ?_
        refine Go.bipush K (q := 219) rfl (v := (101 : Int32)) (by decide) d23_217 ?_
        refine Go.castore K (q := 220) rfl V_ca (i := 3) d23_219 ⟨by decide, by decide⟩ rfl (Nat.le_of_ble_eq_true rfl) n_ca List.mem_cons_self ?_
        intro h8 W9 V_ca
        have E0 := Ext.wr E0 W9 ge_E0_ca
        refine Go.dup K (q := 221) rfl d23_220 rfl ?_
        refine Go.iconst K (q := 222) rfl (v := (4 : Int32)) (by decide) d23_221 ?_
        refine Go.iloadN K (q := 223) rfl d23_222 rfl ?_
        refine Go.castore K (q := 224) rfl V_ca (i := 4) d23_223 ⟨by decide, by decide⟩ rfl (Nat.le_of_ble_eq_true rfl) n_ca List.mem_cons_self ?_
        intro h10 W11 V_ca
        have E0 := Ext.wr E0 W11 ge_E0_ca
        refine Go.astoreN K (q := 225) rfl (L' := #[.val (.int k), .val (.int cc), .val (.ref ca)]) d23_224 rfl rfl ?_
        show Go p l e _ s m _ below meth c _ _ _ _ _ _ _ _ _ h10 1 5 (mkF m 225 #[.val (.int k), .val (.int cc), .val (.ref ca)] [])
        rw [show nar .char (97 : Int32) = (97 : Int32) from by decide, show nar .char (101 : Int32) = (101 : Int32) from by decide, show nar .char (109 : Int32) = (109 : Int32) from by decide, show nar .char (110 : Int32) = (110 : Int32) from by decide] at V_ca
        rw [own_nc hcc] at V_ca
        have V_ca : Arv Z h10 ca k_ca .char (5 : Int32) ((([(110 : Int32), (97 : Int32), (109 : Int32), (101 : Int32)] ++ [cc]) : List Int32).map Value.int) (.int (0 : Int32)) := V_ca
        have hp12 : ∀ c ∈ (([(110 : Int32), (97 : Int32), (109 : Int32), (101 : Int32)] ++ [cc]) : List Int32), ¬ c < 0 ∧ ¬ (255 : Int32) < c := own_ra (by decide) hcc
        refine Go.new K (q := 228) rfl (hw _ (List.mem_of_getElem? (i := 52) rfl)) (hw _ (List.mem_of_getElem? (i := 6) rfl)) (hw _ (List.mem_of_getElem? (i := 5) rfl)) d23_225 (cells' := 2) (slots' := 9) rfl rfl (by decide) (by decide) ?_
        intro h14 a13 g_a13 N_a13 X_a13 D_a13
        have ge_E0_a13 : h.size ≤ a13 := Nat.le_trans E0.1 (Nat.le_of_eq g_a13.symm)
        have E0 := Ext.trans E0 N_a13
        have Fv_a13 : Fld Z h14 a13 "java/lang/String" "value" "[B" .null := D_a13 (Or.inr (hw _ (List.mem_of_getElem? (i := 8) rfl))) (ty := .array .byte) (by decide)
        have Fc_a13 : Fld Z h14 a13 "java/lang/String" "coder" "B" (.int (0 : Int32)) := D_a13 (Or.inr (hw _ (List.mem_of_getElem? (i := 9) rfl))) (ty := .byte) (by decide)
        have n_a13 : n0 ≤ a13 := Nat.le_trans Z0 ge_E0_a13
        refine Go.dup K (q := 229) rfl d23_228 rfl ?_
        refine Go.aloadN K (q := 230) rfl d23_229 rfl rfl ?_
        have V_ca := V_ca.ext N_a13
        refine Go.newStr K (q := 233) rfl (own_words hw) (hw _ (List.mem_of_getElem? (i := 6) rfl)) (hw _ (List.mem_of_getElem? (i := 53) rfl)) (hw _ (List.mem_of_getElem? (i := 54) rfl)) (hw _ (List.mem_of_getElem? (i := 55) rfl)) (cs := ([(110 : Int32), (97 : Int32), (109 : Int32), (101 : Int32)] ++ [cc])) n_a13 (Nat.le_trans Z0 E0.1) X_a13 Fv_a13 Fc_a13 V_ca (Sa.ext E0) hz (n := 5) (by simp) rfl (by decide) (by decide) hp12 d23_230 List.mem_cons_self (by decide) rfl (W := 1) (Nat.le_of_eq rfl) (by decide) (cells' := 3) (slots' := 14) rfl rfl (by decide) (by decide) ?_
        intro h15 K16 S_a13
        have E0 := Ext.keep E0 K16 (allS ge_E0_a13 all0)
        exact Go.retA K rfl rfl d23_233 (by decide) (by decide) (fun _ q => (List.mem_cons_of_mem _ (List.mem_cons_of_mem _ q))) (⟨a13, rfl, E0, by rw [own_nm, if_neg g0, if_neg g1, if_neg g2]; exact S_a13⟩)
      · skip
        refine Go.bipush K (q := 144) rfl (v := (8 : Int32)) (by decide) d23_142 ?_
        refine Go.newarr K (q := 146) rfl (hw _ (List.mem_of_getElem? (i := 51) rfl)) d23_144 (by decide) (cap := 8) (by decide) (by decide) (cells' := 1) (slots' := 8) rfl rfl (by decide) (by decide) ?_
        intro h17 ca k_ca g_ca N_ca V_ca
        have V_ca : Arv Z h17 ca k_ca .char (8 : Int32) [(.int (0 : Int32)), (.int (0 : Int32)), (.int (0 : Int32)), (.int (0 : Int32)), (.int (0 : Int32)), (.int (0 : Int32)), (.int (0 : Int32)), (.int (0 : Int32))] (.int (0 : Int32)) := V_ca
        have ge_E0_ca : h.size ≤ ca := Nat.le_trans E0.1 (Nat.le_of_eq g_ca.symm)
        have E0 := Ext.trans E0 N_ca
        have n_ca : n0 ≤ ca := Nat.le_trans Z0 ge_E0_ca
        refine Go.dup K (q := 147) rfl d23_146 rfl ?_
        refine Go.iconst K (q := 148) rfl (v := (0 : Int32)) (by decide) d23_147 ?_
        refine Go.bipush K (q := 150) rfl (v := (100 : Int32)) (by decide) d23_148 ?_
        refine Go.castore K (q := 151) rfl V_ca (i := 0) d23_150 ⟨by decide, by decide⟩ rfl (Nat.le_of_ble_eq_true rfl) n_ca List.mem_cons_self ?_
        intro h18 W19 V_ca
        have E0 := Ext.wr E0 W19 ge_E0_ca
        refine Go.dup K (q := 152) rfl d23_151 rfl ?_
        refine Go.iconst K (q := 153) rfl (v := (1 : Int32)) (by decide) d23_152 ?_
        refine Go.bipush K (q := 155) rfl (v := (117 : Int32)) (by decide) d23_153 ?_
        refine Go.castore K (q := 156) rfl V_ca (i := 1) d23_155 ⟨by decide, by decide⟩ rfl (Nat.le_of_ble_eq_true rfl) n_ca List.mem_cons_self ?_
        intro h20 W21 V_ca
        have E0 := Ext.wr E0 W21 ge_E0_ca
        refine Go.dup K (q := 157) rfl d23_156 rfl ?_
        refine Go.iconst K (q := 158) rfl (v := (2 : Int32)) (by decide) d23_157 ?_
        refine Go.bipush K (q := 160) rfl (v := (101 : Int32)) (by decide) d23_158 ?_
        refine Go.castore K (q := 161) rfl V_ca (i := 2) d23_160 ⟨by decide, by decide⟩ rfl (Nat.le_of_ble_eq_true rfl) n_ca List.mem_cons_self ?_
        intro h22 W23 V_ca
        have E0 := Ext.wr E0 W23 ge_E0_ca
        refine Go.dup K (q := 162) rfl d23_161 rfl ?_
        refine Go.iconst K (q := 163) rfl (v := (3 : Int32)) (by decide) d23_162 ?_
        refine Go.bipush K (q := 165) rfl (v := (68 : Int32)) (by decide) d23_163 ?_
        refine Go.castore K (q := 166) rfl V_ca (i := 3) d23_165 ⟨by decide, by decide⟩ rfl (Nat.le_of_ble_eq_true rfl) n_ca List.mem_cons_self ?_
        intro h24 W25 V_ca
        have E0 := Ext.wr E0 W25 ge_E0_ca
        refine Go.dup K (q := 167) rfl d23_166 rfl ?_
        refine Go.iconst K (q := 168) rfl (v := (4 : Int32)) (by decide) d23_167 ?_
        refine Go.bipush K (q := 170) rfl (v := (97 : Int32)) (by decide) d23_168 ?_
        refine Go.castore K (q := 171) rfl V_ca (i := 4) d23_170 ⟨by decide, by decide⟩ rfl (Nat.le_of_ble_eq_true rfl) n_ca List.mem_cons_self ?_
        intro h26 W27 V_ca
        have E0 := Ext.wr E0 W27 ge_E0_ca
        refine Go.dup K (q := 172) rfl d23_171 rfl ?_
        refine Go.iconst K (q := 173) rfl (v := (5 : Int32)) (by decide) d23_172 ?_
        refine Go.bipush K (q := 175) rfl (v := (116 : Int32)) (by decide) d23_173 ?_
        refine Go.castore K (q := 176) rfl V_ca (i := 5) d23_175 ⟨by decide, by decide⟩ rfl (Nat.le_of_ble_eq_true rfl) n_ca List.mem_cons_self ?_
        intro h28 W29 V_ca
        have E0 := Ext.wr E0 W29 ge_E0_ca
        refine Go.dup K (q := 177) rfl d23_176 rfl ?_
        refine Go.bipush K (q := 179) rfl (v := (6 : Int32)) (by decide) d23_177 ?_
        refine Go.bipush K (q := 181) rfl (v := (101 : Int32)) (by decide) d23_179 ?_
        refine Go.castore K (q := 182) rfl V_ca (i := 6) d23_181 ⟨by decide, by decide⟩ rfl (Nat.le_of_ble_eq_true rfl) n_ca List.mem_cons_self ?_
        intro h30 W31 V_ca
        have E0 := Ext.wr E0 W31 ge_E0_ca
        refine Go.dup K (q := 183) rfl d23_182 rfl ?_
        refine Go.bipush K (q := 185) rfl (v := (7 : Int32)) (by decide) d23_183 ?_
        refine Go.iloadN K (q := 186) rfl d23_185 rfl ?_
        refine Go.castore K (q := 187) rfl V_ca (i := 7) d23_186 ⟨by decide, by decide⟩ rfl (Nat.le_of_ble_eq_true rfl) n_ca List.mem_cons_self ?_
        intro h32 W33 V_ca
        have E0 := Ext.wr E0 W33 ge_E0_ca
        refine Go.astoreN K (q := 188) rfl (L' := #[.val (.int k), .val (.int cc), .val (.ref ca)]) d23_187 rfl rfl ?_
        show Go p l e _ s m _ below meth c _ _ _ _ _ _ _ _ _ h32 1 8 (mkF m 188 #[.val (.int k), .val (.int cc), .val (.ref ca)] [])
        rw [show nar .char (68 : Int32) = (68 : Int32) from by decide, show nar .char (97 : Int32) = (97 : Int32) from by decide, show nar .char (100 : Int32) = (100 : Int32) from by decide, show nar .char (101 : Int32) = (101 : Int32) from by decide, show nar .char (116 : Int32) = (116 : Int32) from by decide, show nar .char (117 : Int32) = (117 : Int32) from by decide] at V_ca
        rw [own_nc hcc] at V_ca
        have V_ca : Arv Z h32 ca k_ca .char (8 : Int32) ((([(100 : Int32), (117 : Int32), (101 : Int32), (68 : Int32), (97 : Int32), (116 : Int32), (101 : Int32)] ++ [cc]) : List Int32).map Value.int) (.int (0 : Int32)) := V_ca
        have hp34 : ∀ c ∈ (([(100 : Int32), (117 : Int32), (101 : Int32), (68 : Int32), (97 : Int32), (116 : Int32), (101 : Int32)] ++ [cc]) : List Int32), ¬ c < 0 ∧ ¬ (255 : Int32) < c := own_ra (by decide) hcc
        refine Go.new K (q := 191) rfl (hw _ (List.mem_of_getElem? (i := 52) rfl)) (hw _ (List.mem_of_getElem? (i := 6) rfl)) (hw _ (List.mem_of_getElem? (i := 5) rfl)) d23_188 (cells' := 2) (slots' := 12) rfl rfl (by decide) (by decide) ?_
        intro h36 a35 g_a35 N_a35 X_a35 D_a35
        have ge_E0_a35 : h.size ≤ a35 := Nat.le_trans E0.1 (Nat.le_of_eq g_a35.symm)
        have E0 := Ext.trans E0 N_a35
        have Fv_a35 : Fld Z h36 a35 "java/lang/String" "value" "[B" .null := D_a35 (Or.inr (hw _ (List.mem_of_getElem? (i := 8) rfl))) (ty := .array .byte) (by decide)
        have Fc_a35 : Fld Z h36 a35 "java/lang/String" "coder" "B" (.int (0 : Int32)) := D_a35 (Or.inr (hw _ (List.mem_of_getElem? (i := 9) rfl))) (ty := .byte) (by decide)
        have n_a35 : n0 ≤ a35 := Nat.le_trans Z0 ge_E0_a35
        refine Go.dup K (q := 192) rfl d23_191 rfl ?_
        refine Go.aloadN K (q := 193) rfl d23_192 rfl rfl ?_
        have V_ca := V_ca.ext N_a35
        refine Go.newStr K (q := 196) rfl (own_words hw) (hw _ (List.mem_of_getElem? (i := 6) rfl)) (hw _ (List.mem_of_getElem? (i := 53) rfl)) (hw _ (List.mem_of_getElem? (i := 54) rfl)) (hw _ (List.mem_of_getElem? (i := 55) rfl)) (cs := ([(100 : Int32), (117 : Int32), (101 : Int32), (68 : Int32), (97 : Int32), (116 : Int32), (101 : Int32)] ++ [cc])) n_a35 (Nat.le_trans Z0 E0.1) X_a35 Fv_a35 Fc_a35 V_ca (Sa.ext E0) hz (n := 8) (by simp) rfl (by decide) (by decide) hp34 d23_193 List.mem_cons_self (by decide) rfl (W := 1) (Nat.le_of_eq rfl) (by decide) (cells' := 3) (slots' := 20) rfl rfl (by decide) (by decide) ?_
        intro h37 K38 S_a35
        have E0 := Ext.keep E0 K38 (allS ge_E0_a35 all0)
        exact Go.retA K rfl rfl d23_196 (by decide) (by decide) (fun _ q => (List.mem_cons_of_mem _ (List.mem_cons_of_mem _ q))) (⟨a35, rfl, E0, by rw [own_nm, if_neg g0, if_neg g1, if_pos g2]; exact S_a35⟩)
    · skip
      refine Go.bipush K (q := 78) rfl (v := (9 : Int32)) (by decide) d23_76 ?_
      refine Go.newarr K (q := 80) rfl (hw _ (List.mem_of_getElem? (i := 51) rfl)) d23_78 (by decide) (cap := 9) (by decide) (by decide) (cells' := 1) (slots' := 9) rfl rfl (by decide) (by decide) ?_
      intro h39 ca k_ca g_ca N_ca V_ca
      have V_ca : Arv Z h39 ca k_ca .char (9 : Int32) [(.int (0 : Int32)), (.int (0 : Int32)), (.int (0 : Int32)), (.int (0 : Int32)), (.int (0 : Int32)), (.int (0 : Int32)), (.int (0 : Int32)), (.int (0 : Int32)), (.int (0 : Int32))] (.int (0 : Int32)) := V_ca
      have ge_E0_ca : h.size ≤ ca := Nat.le_trans E0.1 (Nat.le_of_eq g_ca.symm)
      have E0 := Ext.trans E0 N_ca
      have n_ca : n0 ≤ ca := Nat.le_trans Z0 ge_E0_ca
      refine Go.dup K (q := 81) rfl d23_80 rfl ?_
      refine Go.iconst K (q := 82) rfl (v := (0 : Int32)) (by decide) d23_81 ?_
      refine Go.bipush K (q := 84) rfl (v := (112 : Int32)) (by decide) d23_82 ?_
      refine Go.castore K (q := 85) rfl V_ca (i := 0) d23_84 ⟨by decide, by decide⟩ rfl (Nat.le_of_ble_eq_true rfl) n_ca List.mem_cons_self ?_
      intro h40 W41 V_ca
      have E0 := Ext.wr E0 W41 ge_E0_ca
      refine Go.dup K (q := 86) rfl d23_85 rfl ?_
      refine Go.iconst K (q := 87) rfl (v := (1 : Int32)) (by decide) d23_86 ?_
      refine Go.bipush K (q := 89) rfl (v := (114 : Int32)) (by decide) d23_87 ?_
      refine Go.castore K (q := 90) rfl V_ca (i := 1) d23_89 ⟨by decide, by decide⟩ rfl (Nat.le_of_ble_eq_true rfl) n_ca List.mem_cons_self ?_
      intro h42 W43 V_ca
      have E0 := Ext.wr E0 W43 ge_E0_ca
      refine Go.dup K (q := 91) rfl d23_90 rfl ?_
      refine Go.iconst K (q := 92) rfl (v := (2 : Int32)) (by decide) d23_91 ?_
      refine Go.bipush K (q := 94) rfl (v := (105 : Int32)) (by decide) d23_92 ?_
      refine Go.castore K (q := 95) rfl V_ca (i := 2) d23_94 ⟨by decide, by decide⟩ rfl (Nat.le_of_ble_eq_true rfl) n_ca List.mem_cons_self ?_
      intro h44 W45 V_ca
      have E0 := Ext.wr E0 W45 ge_E0_ca
      refine Go.dup K (q := 96) rfl d23_95 rfl ?_
      refine Go.iconst K (q := 97) rfl (v := (3 : Int32)) (by decide) d23_96 ?_
      refine Go.bipush K (q := 99) rfl (v := (111 : Int32)) (by decide) d23_97 ?_
      refine Go.castore K (q := 100) rfl V_ca (i := 3) d23_99 ⟨by decide, by decide⟩ rfl (Nat.le_of_ble_eq_true rfl) n_ca List.mem_cons_self ?_
      intro h46 W47 V_ca
      have E0 := Ext.wr E0 W47 ge_E0_ca
      refine Go.dup K (q := 101) rfl d23_100 rfl ?_
      refine Go.iconst K (q := 102) rfl (v := (4 : Int32)) (by decide) d23_101 ?_
      refine Go.bipush K (q := 104) rfl (v := (114 : Int32)) (by decide) d23_102 ?_
      refine Go.castore K (q := 105) rfl V_ca (i := 4) d23_104 ⟨by decide, by decide⟩ rfl (Nat.le_of_ble_eq_true rfl) n_ca List.mem_cons_self ?_
      intro h48 W49 V_ca
      have E0 := Ext.wr E0 W49 ge_E0_ca
      refine Go.dup K (q := 106) rfl d23_105 rfl ?_
      refine Go.iconst K (q := 107) rfl (v := (5 : Int32)) (by decide) d23_106 ?_
      refine Go.bipush K (q := 109) rfl (v := (105 : Int32)) (by decide) d23_107 ?_
      refine Go.castore K (q := 110) rfl V_ca (i := 5) d23_109 ⟨by decide, by decide⟩ rfl (Nat.le_of_ble_eq_true rfl) n_ca List.mem_cons_self ?_
      intro h50 W51 V_ca
      have E0 := Ext.wr E0 W51 ge_E0_ca
      refine Go.dup K (q := 111) rfl d23_110 rfl ?_
      refine Go.bipush K (q := 113) rfl (v := (6 : Int32)) (by decide) d23_111 ?_
      refine Go.bipush K (q := 115) rfl (v := (116 : Int32)) (by decide) d23_113 ?_
      refine Go.castore K (q := 116) rfl V_ca (i := 6) d23_115 ⟨by decide, by decide⟩ rfl (Nat.le_of_ble_eq_true rfl) n_ca List.mem_cons_self ?_
      intro h52 W53 V_ca
      have E0 := Ext.wr E0 W53 ge_E0_ca
      refine Go.dup K (q := 117) rfl d23_116 rfl ?_
      refine Go.bipush K (q := 119) rfl (v := (7 : Int32)) (by decide) d23_117 ?_
      refine Go.bipush K (q := 121) rfl (v := (121 : Int32)) (by decide) d23_119 ?_
      refine Go.castore K (q := 122) rfl V_ca (i := 7) d23_121 ⟨by decide, by decide⟩ rfl (Nat.le_of_ble_eq_true rfl) n_ca List.mem_cons_self ?_
      intro h54 W55 V_ca
      have E0 := Ext.wr E0 W55 ge_E0_ca
      refine Go.dup K (q := 123) rfl d23_122 rfl ?_
      refine Go.bipush K (q := 125) rfl (v := (8 : Int32)) (by decide) d23_123 ?_
      refine Go.iloadN K (q := 126) rfl d23_125 rfl ?_
      refine Go.castore K (q := 127) rfl V_ca (i := 8) d23_126 ⟨by decide, by decide⟩ rfl (Nat.le_of_ble_eq_true rfl) n_ca List.mem_cons_self ?_
      intro h56 W57 V_ca
      have E0 := Ext.wr E0 W57 ge_E0_ca
      refine Go.astoreN K (q := 128) rfl (L' := #[.val (.int k), .val (.int cc), .val (.ref ca)]) d23_127 rfl rfl ?_
      show Go p l e _ s m _ below meth c _ _ _ _ _ _ _ _ _ h56 1 9 (mkF m 128 #[.val (.int k), .val (.int cc), .val (.ref ca)] [])
      rw [show nar .char (105 : Int32) = (105 : Int32) from by decide, show nar .char (111 : Int32) = (111 : Int32) from by decide, show nar .char (112 : Int32) = (112 : Int32) from by decide, show nar .char (114 : Int32) = (114 : Int32) from by decide, show nar .char (116 : Int32) = (116 : Int32) from by decide, show nar .char (121 : Int32) = (121 : Int32) from by decide] at V_ca
      rw [own_nc hcc] at V_ca
      have V_ca : Arv Z h56 ca k_ca .char (9 : Int32) ((([(112 : Int32), (114 : Int32), (105 : Int32), (111 : Int32), (114 : Int32), (105 : Int32), (116 : Int32), (121 : Int32)] ++ [cc]) : List Int32).map Value.int) (.int (0 : Int32)) := V_ca
      have hp58 : ∀ c ∈ (([(112 : Int32), (114 : Int32), (105 : Int32), (111 : Int32), (114 : Int32), (105 : Int32), (116 : Int32), (121 : Int32)] ++ [cc]) : List Int32), ¬ c < 0 ∧ ¬ (255 : Int32) < c := own_ra (by decide) hcc
      refine Go.new K (q := 131) rfl (hw _ (List.mem_of_getElem? (i := 52) rfl)) (hw _ (List.mem_of_getElem? (i := 6) rfl)) (hw _ (List.mem_of_getElem? (i := 5) rfl)) d23_128 (cells' := 2) (slots' := 13) rfl rfl (by decide) (by decide) ?_
      intro h60 a59 g_a59 N_a59 X_a59 D_a59
      have ge_E0_a59 : h.size ≤ a59 := Nat.le_trans E0.1 (Nat.le_of_eq g_a59.symm)
      have E0 := Ext.trans E0 N_a59
      have Fv_a59 : Fld Z h60 a59 "java/lang/String" "value" "[B" .null := D_a59 (Or.inr (hw _ (List.mem_of_getElem? (i := 8) rfl))) (ty := .array .byte) (by decide)
      have Fc_a59 : Fld Z h60 a59 "java/lang/String" "coder" "B" (.int (0 : Int32)) := D_a59 (Or.inr (hw _ (List.mem_of_getElem? (i := 9) rfl))) (ty := .byte) (by decide)
      have n_a59 : n0 ≤ a59 := Nat.le_trans Z0 ge_E0_a59
      refine Go.dup K (q := 132) rfl d23_131 rfl ?_
      refine Go.aloadN K (q := 133) rfl d23_132 rfl rfl ?_
      have V_ca := V_ca.ext N_a59
      refine Go.newStr K (q := 136) rfl (own_words hw) (hw _ (List.mem_of_getElem? (i := 6) rfl)) (hw _ (List.mem_of_getElem? (i := 53) rfl)) (hw _ (List.mem_of_getElem? (i := 54) rfl)) (hw _ (List.mem_of_getElem? (i := 55) rfl)) (cs := ([(112 : Int32), (114 : Int32), (105 : Int32), (111 : Int32), (114 : Int32), (105 : Int32), (116 : Int32), (121 : Int32)] ++ [cc])) n_a59 (Nat.le_trans Z0 E0.1) X_a59 Fv_a59 Fc_a59 V_ca (Sa.ext E0) hz (n := 9) (by simp) rfl (by decide) (by decide) hp58 d23_133 List.mem_cons_self (by decide) rfl (W := 1) (Nat.le_of_eq rfl) (by decide) (cells' := 3) (slots' := 22) rfl rfl (by decide) (by decide) ?_
      intro h61 K62 S_a59
      have E0 := Ext.keep E0 K62 (allS ge_E0_a59 all0)
      exact Go.retA K rfl rfl d23_136 (by decide) (by decide) (fun _ q => (List.mem_cons_of_mem _ (List.mem_cons_of_mem _ q))) (⟨a59, rfl, E0, by rw [own_nm, if_neg g0, if_pos g1]; exact S_a59⟩)
  · skip
    refine Go.bipush K (q := 6) rfl (v := (10 : Int32)) (by decide) d23_4 ?_
    refine Go.newarr K (q := 8) rfl (hw _ (List.mem_of_getElem? (i := 51) rfl)) d23_6 (by decide) (cap := 10) (by decide) (by decide) (cells' := 1) (slots' := 10) rfl rfl (by decide) (by decide) ?_
    intro h63 ca k_ca g_ca N_ca V_ca
    have V_ca : Arv Z h63 ca k_ca .char (10 : Int32) [(.int (0 : Int32)), (.int (0 : Int32)), (.int (0 : Int32)), (.int (0 : Int32)), (.int (0 : Int32)), (.int (0 : Int32)), (.int (0 : Int32)), (.int (0 : Int32)), (.int (0 : Int32)), (.int (0 : Int32))] (.int (0 : Int32)) := V_ca
    have ge_E0_ca : h.size ≤ ca := Nat.le_trans E0.1 (Nat.le_of_eq g_ca.symm)
    have E0 := Ext.trans E0 N_ca
    have n_ca : n0 ≤ ca := Nat.le_trans Z0 ge_E0_ca
    refine Go.dup K (q := 9) rfl d23_8 rfl ?_
    refine Go.iconst K (q := 10) rfl (v := (0 : Int32)) (by decide) d23_9 ?_
    refine Go.bipush K (q := 12) rfl (v := (99 : Int32)) (by decide) d23_10 ?_
    refine Go.castore K (q := 13) rfl V_ca (i := 0) d23_12 ⟨by decide, by decide⟩ rfl (Nat.le_of_ble_eq_true rfl) n_ca List.mem_cons_self ?_
    intro h64 W65 V_ca
    have E0 := Ext.wr E0 W65 ge_E0_ca
    refine Go.dup K (q := 14) rfl d23_13 rfl ?_
    refine Go.iconst K (q := 15) rfl (v := (1 : Int32)) (by decide) d23_14 ?_
    refine Go.bipush K (q := 17) rfl (v := (114 : Int32)) (by decide) d23_15 ?_
    refine Go.castore K (q := 18) rfl V_ca (i := 1) d23_17 ⟨by decide, by decide⟩ rfl (Nat.le_of_ble_eq_true rfl) n_ca List.mem_cons_self ?_
    intro h66 W67 V_ca
    have E0 := Ext.wr E0 W67 ge_E0_ca
    refine Go.dup K (q := 19) rfl d23_18 rfl ?_
    refine Go.iconst K (q := 20) rfl (v := (2 : Int32)) (by decide) d23_19 ?_
    refine Go.bipush K (q := 22) rfl (v := (101 : Int32)) (by decide) d23_20 ?_
    refine Go.castore K (q := 23) rfl V_ca (i := 2) d23_22 ⟨by decide, by decide⟩ rfl (Nat.le_of_ble_eq_true rfl) n_ca List.mem_cons_self ?_
    intro h68 W69 V_ca
    have E0 := Ext.wr E0 W69 ge_E0_ca
    refine Go.dup K (q := 24) rfl d23_23 rfl ?_
    refine Go.iconst K (q := 25) rfl (v := (3 : Int32)) (by decide) d23_24 ?_
    refine Go.bipush K (q := 27) rfl (v := (97 : Int32)) (by decide) d23_25 ?_
    refine Go.castore K (q := 28) rfl V_ca (i := 3) d23_27 ⟨by decide, by decide⟩ rfl (Nat.le_of_ble_eq_true rfl) n_ca List.mem_cons_self ?_
    intro h70 W71 V_ca
    have E0 := Ext.wr E0 W71 ge_E0_ca
    refine Go.dup K (q := 29) rfl d23_28 rfl ?_
    refine Go.iconst K (q := 30) rfl (v := (4 : Int32)) (by decide) d23_29 ?_
    refine Go.bipush K (q := 32) rfl (v := (116 : Int32)) (by decide) d23_30 ?_
    refine Go.castore K (q := 33) rfl V_ca (i := 4) d23_32 ⟨by decide, by decide⟩ rfl (Nat.le_of_ble_eq_true rfl) n_ca List.mem_cons_self ?_
    intro h72 W73 V_ca
    have E0 := Ext.wr E0 W73 ge_E0_ca
    refine Go.dup K (q := 34) rfl d23_33 rfl ?_
    refine Go.iconst K (q := 35) rfl (v := (5 : Int32)) (by decide) d23_34 ?_
    refine Go.bipush K (q := 37) rfl (v := (101 : Int32)) (by decide) d23_35 ?_
    refine Go.castore K (q := 38) rfl V_ca (i := 5) d23_37 ⟨by decide, by decide⟩ rfl (Nat.le_of_ble_eq_true rfl) n_ca List.mem_cons_self ?_
    intro h74 W75 V_ca
    have E0 := Ext.wr E0 W75 ge_E0_ca
    refine Go.dup K (q := 39) rfl d23_38 rfl ?_
    refine Go.bipush K (q := 41) rfl (v := (6 : Int32)) (by decide) d23_39 ?_
    refine Go.bipush K (q := 43) rfl (v := (100 : Int32)) (by decide) d23_41 ?_
    refine Go.castore K (q := 44) rfl V_ca (i := 6) d23_43 ⟨by decide, by decide⟩ rfl (Nat.le_of_ble_eq_true rfl) n_ca List.mem_cons_self ?_
    intro h76 W77 V_ca
    have E0 := Ext.wr E0 W77 ge_E0_ca
    refine Go.dup K (q := 45) rfl d23_44 rfl ?_
    refine Go.bipush K (q := 47) rfl (v := (7 : Int32)) (by decide) d23_45 ?_
    refine Go.bipush K (q := 49) rfl (v := (65 : Int32)) (by decide) d23_47 ?_
    refine Go.castore K (q := 50) rfl V_ca (i := 7) d23_49 ⟨by decide, by decide⟩ rfl (Nat.le_of_ble_eq_true rfl) n_ca List.mem_cons_self ?_
    intro h78 W79 V_ca
    have E0 := Ext.wr E0 W79 ge_E0_ca
    refine Go.dup K (q := 51) rfl d23_50 rfl ?_
    refine Go.bipush K (q := 53) rfl (v := (8 : Int32)) (by decide) d23_51 ?_
    refine Go.bipush K (q := 55) rfl (v := (116 : Int32)) (by decide) d23_53 ?_
    refine Go.castore K (q := 56) rfl V_ca (i := 8) d23_55 ⟨by decide, by decide⟩ rfl (Nat.le_of_ble_eq_true rfl) n_ca List.mem_cons_self ?_
    intro h80 W81 V_ca
    have E0 := Ext.wr E0 W81 ge_E0_ca
    refine Go.dup K (q := 57) rfl d23_56 rfl ?_
    refine Go.bipush K (q := 59) rfl (v := (9 : Int32)) (by decide) d23_57 ?_
    refine Go.iloadN K (q := 60) rfl d23_59 rfl ?_
    refine Go.castore K (q := 61) rfl V_ca (i := 9) d23_60 ⟨by decide, by decide⟩ rfl (Nat.le_of_ble_eq_true rfl) n_ca List.mem_cons_self ?_
    intro h82 W83 V_ca
    have E0 := Ext.wr E0 W83 ge_E0_ca
    refine Go.astoreN K (q := 62) rfl (L' := #[.val (.int k), .val (.int cc), .val (.ref ca)]) d23_61 rfl rfl ?_
    show Go p l e _ s m _ below meth c _ _ _ _ _ _ _ _ _ h82 1 10 (mkF m 62 #[.val (.int k), .val (.int cc), .val (.ref ca)] [])
    rw [show nar .char (65 : Int32) = (65 : Int32) from by decide, show nar .char (97 : Int32) = (97 : Int32) from by decide, show nar .char (99 : Int32) = (99 : Int32) from by decide, show nar .char (100 : Int32) = (100 : Int32) from by decide, show nar .char (101 : Int32) = (101 : Int32) from by decide, show nar .char (114 : Int32) = (114 : Int32) from by decide, show nar .char (116 : Int32) = (116 : Int32) from by decide] at V_ca
    rw [own_nc hcc] at V_ca
    have V_ca : Arv Z h82 ca k_ca .char (10 : Int32) ((([(99 : Int32), (114 : Int32), (101 : Int32), (97 : Int32), (116 : Int32), (101 : Int32), (100 : Int32), (65 : Int32), (116 : Int32)] ++ [cc]) : List Int32).map Value.int) (.int (0 : Int32)) := V_ca
    have hp84 : ∀ c ∈ (([(99 : Int32), (114 : Int32), (101 : Int32), (97 : Int32), (116 : Int32), (101 : Int32), (100 : Int32), (65 : Int32), (116 : Int32)] ++ [cc]) : List Int32), ¬ c < 0 ∧ ¬ (255 : Int32) < c := own_ra (by decide) hcc
    refine Go.new K (q := 65) rfl (hw _ (List.mem_of_getElem? (i := 52) rfl)) (hw _ (List.mem_of_getElem? (i := 6) rfl)) (hw _ (List.mem_of_getElem? (i := 5) rfl)) d23_62 (cells' := 2) (slots' := 14) rfl rfl (by decide) (by decide) ?_
    intro h86 a85 g_a85 N_a85 X_a85 D_a85
    have ge_E0_a85 : h.size ≤ a85 := Nat.le_trans E0.1 (Nat.le_of_eq g_a85.symm)
    have E0 := Ext.trans E0 N_a85
    have Fv_a85 : Fld Z h86 a85 "java/lang/String" "value" "[B" .null := D_a85 (Or.inr (hw _ (List.mem_of_getElem? (i := 8) rfl))) (ty := .array .byte) (by decide)
    have Fc_a85 : Fld Z h86 a85 "java/lang/String" "coder" "B" (.int (0 : Int32)) := D_a85 (Or.inr (hw _ (List.mem_of_getElem? (i := 9) rfl))) (ty := .byte) (by decide)
    have n_a85 : n0 ≤ a85 := Nat.le_trans Z0 ge_E0_a85
    refine Go.dup K (q := 66) rfl d23_65 rfl ?_
    refine Go.aloadN K (q := 67) rfl d23_66 rfl rfl ?_
    have V_ca := V_ca.ext N_a85
    refine Go.newStr K (q := 70) rfl (own_words hw) (hw _ (List.mem_of_getElem? (i := 6) rfl)) (hw _ (List.mem_of_getElem? (i := 53) rfl)) (hw _ (List.mem_of_getElem? (i := 54) rfl)) (hw _ (List.mem_of_getElem? (i := 55) rfl)) (cs := ([(99 : Int32), (114 : Int32), (101 : Int32), (97 : Int32), (116 : Int32), (101 : Int32), (100 : Int32), (65 : Int32), (116 : Int32)] ++ [cc])) n_a85 (Nat.le_trans Z0 E0.1) X_a85 Fv_a85 Fc_a85 V_ca (Sa.ext E0) hz (n := 10) (by simp) rfl (by decide) (by decide) hp84 d23_67 List.mem_cons_self (by decide) rfl (W := 1) (Nat.le_of_eq rfl) (by decide) (cells' := 3) (slots' := 24) rfl rfl (by decide) (by decide) ?_
    intro h87 K88 S_a85
    have E0 := Ext.keep E0 K88 (allS ge_E0_a85 all0)
    exact Go.retA K rfl rfl d23_70 (by decide) (by decide) (fun _ q => (List.mem_cons_of_mem _ (List.mem_cons_of_mem _ q))) (⟨a85, rfl, E0, by rw [own_nm, if_pos g0]; exact S_a85⟩)
set_option maxRecDepth 65536 in
set_option maxHeartbeats 40000000 in
theorem c_sort (l : Launch) (Z : State) (a0 : Array Value) (hw : ∀ d ∈ tables_1, d.before a0 Z = true) (xs : List Addr) (n0 : Nat) (h : Heap) (Z0 : n0 ≤ h.size) (k : Int32) (ki_0 ki_1 ki_2 ki_3 : Addr) (T_0 : Sta Z h "com/example/tasklane/tasklane/engine/TaskSort" "CREATED_AT" "Lcom/example/tasklane/tasklane/engine/TaskSort;" (.ref ki_0)) (T_1 : Sta Z h "com/example/tasklane/tasklane/engine/TaskSort" "PRIORITY" "Lcom/example/tasklane/tasklane/engine/TaskSort;" (.ref ki_1)) (T_2 : Sta Z h "com/example/tasklane/tasklane/engine/TaskSort" "DUE_DATE" "Lcom/example/tasklane/tasklane/engine/TaskSort;" (.ref ki_2)) (T_3 : Sta Z h "com/example/tasklane/tasklane/engine/TaskSort" "NAME" "Lcom/example/tasklane/tasklane/engine/TaskSort;" (.ref ki_3)) :
    Ctr l Z consts_1 xs n0 (⟨"com/example/tasklane/tasklane/engine/TaskSortFromIdPinLaw", "sort", "(I)Lcom/example/tasklane/tasklane/engine/TaskSort;"⟩ : MethodName) method_4_code 1 (some (.object "com/example/tasklane/tasklane/engine/TaskSort")) [] ({ frames := 0, cells := 0, slots := 0, locals := 0 } : Room) #[(.int k)] h (fun v h' => v = some (.ref (own_kk ki_0 ki_1 ki_2 ki_3 k)) ∧ h = h') := by
  refine Ctr.body pn12 ?_
  intro p e s m below meth c K
  refine Go.entry (f' := (mkF m 0 #[.val (.int k)] [])) (by first | (simp [entryFrame, mkF, argsToLocals, Value.category]; done) | rfl) ?_
  refine Go.iloadN K (q := 1) rfl d24_0 rfl ?_
  refine Go.ifc K (q := 8) (q' := 4) (by decide) (by decide) rfl d24_1 (fun (g0 : ¬ k = (0 : Int32)) => ?_) (fun (g0 : k = (0 : Int32)) => ?_)
  · skip
    refine Go.iloadN K (q := 9) rfl d24_8 rfl ?_
    refine Go.iconst K (q := 10) rfl (v := (1 : Int32)) (by decide) d24_9 ?_
    refine Go.icmp K (q := 17) (q' := 13) (by decide) (by decide) rfl d24_10 (fun (g1 : ¬ k = (1 : Int32)) => ?_) (fun (g1 : k = (1 : Int32)) => ?_)
    · skip
      refine Go.iloadN K (q := 18) rfl d24_17 rfl ?_
      refine Go.iconst K (q := 19) rfl (v := (2 : Int32)) (by decide) d24_18 ?_
      refine Go.icmp K (q := 26) (q' := 22) (by decide) (by decide) rfl d24_19 (fun (g2 : ¬ k = (2 : Int32)) => ?_) (fun (g2 : k = (2 : Int32)) => ?_)
      · skip
        refine Go.getS K (q := 29) rfl (hw _ (List.mem_of_getElem? (i := 152) rfl)) Via.refl (T_3) d24_26 ?_
        exact Go.retA K rfl rfl d24_29 (by decide) (by decide) (fun _ q => q) (⟨by rw [own_kk, if_neg g0, if_neg g1, if_neg g2], rfl⟩)
      · skip
        refine Go.getS K (q := 25) rfl (hw _ (List.mem_of_getElem? (i := 131) rfl)) Via.refl (T_2) d24_22 ?_
        exact Go.retA K rfl rfl d24_25 (by decide) (by decide) (fun _ q => q) (⟨by rw [own_kk, if_neg g0, if_neg g1, if_pos g2], rfl⟩)
    · skip
      refine Go.getS K (q := 16) rfl (hw _ (List.mem_of_getElem? (i := 154) rfl)) Via.refl (T_1) d24_13 ?_
      exact Go.retA K rfl rfl d24_16 (by decide) (by decide) (fun _ q => q) (⟨by rw [own_kk, if_neg g0, if_pos g1], rfl⟩)
  · skip
    refine Go.getS K (q := 7) rfl (hw _ (List.mem_of_getElem? (i := 156) rfl)) Via.refl (T_0) d24_4 ?_
    exact Go.retA K rfl rfl d24_7 (by decide) (by decide) (fun _ q => q) (⟨by rw [own_kk, if_pos g0], rfl⟩)
set_option maxRecDepth 65536 in
set_option maxHeartbeats 40000000 in
theorem c_vals (l : Launch) (Z : State) (a0 : Array Value) (hw : ∀ d ∈ tables_1, d.before a0 Z = true) (xs : List Addr) (n0 : Nat) (h : Heap) (Z0 : n0 ≤ h.size) (ki_0 ki_1 ki_2 ki_3 : Addr) (va : Addr) (kv : ClassId) (SV : Sta Z h "com/example/tasklane/tasklane/engine/TaskSort" "$VALUES" "[Lcom/example/tasklane/tasklane/engine/TaskSort;" (.ref va)) (AV : Arv Z h va kv (.object "com/example/tasklane/tasklane/engine/TaskSort") (4 : Int32) [.ref ki_0, .ref ki_1, .ref ki_2, .ref ki_3] .null) (XV : Exa Z h va "[Lcom/example/tasklane/tasklane/engine/TaskSort;") :
    Ctr l Z consts_1 xs n0 (⟨"com/example/tasklane/tasklane/engine/TaskSort", "values", "()[Lcom/example/tasklane/tasklane/engine/TaskSort;"⟩ : MethodName) prog_24_method_1_code 0 (some (.array (.object "com/example/tasklane/tasklane/engine/TaskSort"))) [] ({ frames := 1, cells := 1, slots := 4, locals := 14 } : Room) #[] h (fun v h' => ∃ b, v = some (.ref b) ∧ Ext h h' ∧ Arv Z h' b kv (.object "com/example/tasklane/tasklane/engine/TaskSort") (4 : Int32) [.ref ki_0, .ref ki_1, .ref ki_2, .ref ki_3] .null) := by
  refine Ctr.body pn13 ?_
  intro p e s m below meth c K
  refine Go.entry (f' := (mkF m 0 #[] [])) (by first | (simp [entryFrame, mkF, argsToLocals, Value.category]; done) | rfl) ?_
  have E0 := Ext.refl h
  refine Go.getS K (q := 3) rfl (hw _ (List.mem_of_getElem? (i := 80) rfl)) Via.refl (SV) d17_0 ?_
  refine Go.clone K (q := 6) rfl (hw _ (List.mem_of_getElem? (i := 82) rfl)) (hw _ (List.mem_of_getElem? (i := 83) rfl)) (hw _ (List.mem_of_getElem? (i := 87) rfl)) (hw _ (List.mem_of_getElem? (i := 85) rfl)) (hw _ (List.mem_of_getElem? (i := 86) rfl)) (hw _ (List.mem_of_getElem? (i := 88) rfl)) AV XV d17_3 rfl (by decide) (W := 0) (cap := 4) (Nat.le_of_eq rfl) (by decide) (by decide) (cells' := 1) (slots' := 4) rfl rfl (by decide) (by decide) ?_
  intro h1 cb g_cb N_cb A_cb X_cb
  have ge_E0_cb : h.size ≤ cb := Nat.le_trans E0.1 (Nat.le_of_eq g_cb.symm)
  have E0 := Ext.trans E0 N_cb
  refine Go.castY K (q := 9) rfl (hw _ (List.mem_of_getElem? (i := 90) rfl)) (Ins.self X_cb) d17_6 ?_
  exact Go.retA K rfl rfl d17_9 (by decide) (by decide) (fun _ q => (List.mem_cons_of_mem _ q)) (⟨cb, rfl, E0, A_cb⟩)
set_option maxRecDepth 65536 in
set_option maxHeartbeats 40000000 in
theorem c_from (l : Launch) (Z : State) (a0 : Array Value) (hw : ∀ d ∈ tables_1, d.before a0 Z = true) (xs : List Addr) (n0 : Nat) (h : Heap) (Z0 : n0 ≤ h.size) (st : Addr) (cs : List Int32) (S1 : Str Z h st cs) (z : Int32) (Sa : Sta Z h "java/lang/String" "COMPACT_STRINGS" "Z" (.int z)) (hz : ¬ z = 0) (ki_0 ki_1 ki_2 ki_3 : Addr) (va : Addr) (kv : ClassId) (SV : Sta Z h "com/example/tasklane/tasklane/engine/TaskSort" "$VALUES" "[Lcom/example/tasklane/tasklane/engine/TaskSort;" (.ref va)) (AV : Arv Z h va kv (.object "com/example/tasklane/tasklane/engine/TaskSort") (4 : Int32) [.ref ki_0, .ref ki_1, .ref ki_2, .ref ki_3] .null) (XV : Exa Z h va "[Lcom/example/tasklane/tasklane/engine/TaskSort;") (si_0 si_1 si_2 si_3 : Addr) (I_0 : Fld Z h ki_0 "com/example/tasklane/tasklane/engine/TaskSort" "id" "Ljava/lang/String;" (.ref si_0)) (U_0 : Str Z h si_0 (own_nm 0)) (I_1 : Fld Z h ki_1 "com/example/tasklane/tasklane/engine/TaskSort" "id" "Ljava/lang/String;" (.ref si_1)) (U_1 : Str Z h si_1 (own_nm 1)) (I_2 : Fld Z h ki_2 "com/example/tasklane/tasklane/engine/TaskSort" "id" "Ljava/lang/String;" (.ref si_2)) (U_2 : Str Z h si_2 (own_nm 2)) (I_3 : Fld Z h ki_3 "com/example/tasklane/tasklane/engine/TaskSort" "id" "Ljava/lang/String;" (.ref si_3)) (U_3 : Str Z h si_3 (own_nm 3)) (oe : Addr) (SE : Sta Z h "java/util/Optional" "EMPTY" "Ljava/util/Optional;" (.ref oe)) (XE : Exa Z h oe "java/util/Optional") (FE : Fld Z h oe "java/util/Optional" "value" "Ljava/lang/Object;" .null) :
    Ctr l Z consts_1 xs n0 (⟨"com/example/tasklane/tasklane/engine/TaskSort", "fromId", "(Ljava/lang/String;)Ljava/util/Optional;"⟩ : MethodName) prog_24_method_5_code 5 (some (.object "java/util/Optional")) [] ({ frames := 3, cells := 2, slots := 5, locals := 38 } : Room) #[(.ref st)] h (fun v h' => ∃ o, v = some (.ref o) ∧ Ext h h' ∧ Exa Z h' o "java/util/Optional" ∧ Fld Z h' o "java/util/Optional" "value" "Ljava/lang/Object;" (own_find ki_0 ki_1 ki_2 ki_3 cs)) := by
  refine Ctr.body pn14 ?_
  intro p e s m below meth c K
  refine Go.entry (f' := (mkF m 0 #[.val (.ref st), .unset, .unset, .unset, .unset] [])) (by first | (simp [entryFrame, mkF, argsToLocals, Value.category]; done) | rfl) ?_
  have E0 := Ext.refl h
  refine Go.cS K (q := 3) rfl (y := (⟨"com/example/tasklane/tasklane/engine/TaskSort", "values", "()[Lcom/example/tasklane/tasklane/engine/TaskSort;"⟩ : MethodName)) (c_vals l Z a0 hw xs n0 h Z0 ki_0 ki_1 ki_2 ki_3 va kv SV AV XV) (hw _ (List.mem_of_getElem? (i := 77) rfl)) (hw _ (List.mem_of_getElem? (i := 78) rfl)) (hw _ (List.mem_of_getElem? (i := 75) rfl)) (hw _ (List.mem_of_getElem? (i := 79) rfl)) (by decide) pd3 (argsL := []) (rest := []) rfl rfl rfl rfl (W := 0) (Nat.le_of_eq rfl) (by decide) (by decide) d16_0 (cells' := 1) (slots' := 4) rfl rfl (by decide) (by decide) ?_
  intro r2 h1 hQ sz_h1
  obtain ⟨vb, rfl, N_v, A_v⟩ := hQ
  have E0 := Ext.trans E0 N_v
  show Go p l e _ s m _ below meth c _ _ _ _ _ _ _ _ _ h1 1 4 (mkF m 3 #[.val (.ref st), .unset, .unset, .unset, .unset] [(.ref vb)])
  refine Go.astoreN K (q := 4) rfl (L' := #[.val (.ref st), .val (.ref vb), .unset, .unset, .unset]) d16_3 rfl rfl ?_
  refine Go.aloadN K (q := 5) rfl d16_4 rfl rfl ?_
  refine Go.alen K (q := 6) rfl A_v d16_5 ?_
  refine Go.istoreN K (q := 7) rfl (L' := #[.val (.ref st), .val (.ref vb), .val (.int (4 : Int32)), .unset, .unset]) d16_6 rfl ?_
  refine Go.iconst K (q := 8) rfl (v := (0 : Int32)) (by decide) d16_7 ?_
  refine Go.istoreN K (q := 9) rfl (L' := #[.val (.ref st), .val (.ref vb), .val (.int (4 : Int32)), .val (.int (0 : Int32)), .unset]) d16_8 rfl ?_
  refine Go.iloadN K (q := 10) rfl d16_9 rfl ?_
  refine Go.iloadN K (q := 11) rfl d16_10 rfl ?_
  refine Go.icmpN K (q := 14) rfl d16_11 (show (0 : Int32) < (4 : Int32) from (by decide)) ?_
  refine Go.aloadN K (q := 15) rfl d16_14 rfl rfl ?_
  refine Go.iloadN K (q := 16) rfl d16_15 rfl ?_
  refine Go.aaload K (q := 17) rfl A_v rfl d16_16 ⟨by decide, by decide⟩ (v := (.ref ki_0)) rfl ?_
  refine Go.astore K (q := 19) rfl (L' := #[.val (.ref st), .val (.ref vb), .val (.int (4 : Int32)), .val (.int (0 : Int32)), .val (.ref ki_0)]) d16_17 rfl rfl ?_
  refine Go.aload K (q := 21) rfl d16_19 rfl rfl ?_
  refine Go.getF K (q := 24) rfl (hw _ (List.mem_of_getElem? (i := 92) rfl)) Via.refl ((I_0.ext E0)) d16_21 ?_
  refine Go.aloadN K (q := 25) rfl d16_24 rfl rfl ?_
  refine Go.strEq K (q := 28) rfl (own_wordsEq hw) (hw _ (List.mem_of_getElem? (i := 6) rfl)) (y := (⟨"java/lang/String", "equals", "(Ljava/lang/Object;)Z"⟩ : MethodName)) (hw _ (List.mem_of_getElem? (i := 94) rfl)) (hw _ (List.mem_of_getElem? (i := 95) rfl)) (nfS (hw _ (List.mem_of_getElem? (i := 97) rfl))) (hw _ (List.mem_of_getElem? (i := 97) rfl)) (hw _ (List.mem_of_getElem? (i := 96) rfl)) (by decide) rfl (U_0.ext E0) (S1.ext E0) (Sa.ext E0) hz d16_25 (by decide) rfl (W := 0) (Nat.le_of_eq rfl) (by decide) (by decide) (by decide) (fun f0 => ?_) (fun f0 => ?_)
  · skip
    refine Go.ifN K (q := 31) rfl d16_28 (show ¬ (1 : Int32) = (0 : Int32) from (by decide)) ?_
    refine Go.aload K (q := 33) rfl d16_31 rfl rfl ?_
    refine Go.cS K (q := 36) rfl (y := (⟨"java/util/Optional", "of", "(Ljava/lang/Object;)Ljava/util/Optional;"⟩ : MethodName)) (c_oof l Z a0 hw xs n0 h1 (Nat.le_trans Z0 E0.1) ki_0) (hw _ (List.mem_of_getElem? (i := 133) rfl)) (hw _ (List.mem_of_getElem? (i := 134) rfl)) (hw _ (List.mem_of_getElem? (i := 108) rfl)) (hw _ (List.mem_of_getElem? (i := 135) rfl)) (by decide) pd4 (argsL := [(.ref ki_0)]) (rest := []) rfl rfl rfl rfl (W := 0) (Nat.le_of_eq rfl) (by decide) (by decide) d16_33 (cells' := 2) (slots' := 5) rfl rfl (by decide) (by decide) ?_
    intro r4 h3 hQ sz_h3
    obtain ⟨oo, rfl, N_o, X_o, F_o⟩ := hQ
    have E0 := Ext.trans E0 N_o
    show Go p l e _ s m _ below meth c _ _ _ _ _ _ _ _ _ h3 2 5 (mkF m 36 #[.val (.ref st), .val (.ref vb), .val (.int (4 : Int32)), .val (.int (0 : Int32)), .val (.ref ki_0)] [(.ref oo)])
    exact Go.retA K rfl rfl d16_36 (by decide) (by decide) (fun _ q => q) (⟨oo, rfl, E0, X_o, by rw [own_find, if_pos f0]; exact F_o⟩)
  · skip
    refine Go.ifY K (q := 37) (by decide) (by decide) d16_28 (show (0 : Int32) = (0 : Int32) from rfl) ?_
    refine Go.iinc K (q := 40) rfl (L' := #[.val (.ref st), .val (.ref vb), .val (.int (4 : Int32)), .val (.int ((0 : Int32) + (1 : Int32))), .val (.ref ki_0)]) (y := (1 : Int32)) (by decide) d16_37 rfl rfl ?_
    refine Go.goto K (q := 9) (by decide) (by decide) d16_40 ?_
    refine Go.iloadN K (q := 10) rfl d16_9 rfl ?_
    refine Go.iloadN K (q := 11) rfl d16_10 rfl ?_
    refine Go.icmpN K (q := 14) rfl d16_11 (show ((0 : Int32) + (1 : Int32)) < (4 : Int32) from (by decide)) ?_
    refine Go.aloadN K (q := 15) rfl d16_14 rfl rfl ?_
    refine Go.iloadN K (q := 16) rfl d16_15 rfl ?_
    refine Go.aaload K (q := 17) rfl A_v rfl d16_16 ⟨by decide, by decide⟩ (v := (.ref ki_1)) rfl ?_
    refine Go.astore K (q := 19) rfl (L' := #[.val (.ref st), .val (.ref vb), .val (.int (4 : Int32)), .val (.int ((0 : Int32) + (1 : Int32))), .val (.ref ki_1)]) d16_17 rfl rfl ?_
    refine Go.aload K (q := 21) rfl d16_19 rfl rfl ?_
    refine Go.getF K (q := 24) rfl (hw _ (List.mem_of_getElem? (i := 92) rfl)) Via.refl ((I_1.ext E0)) d16_21 ?_
    refine Go.aloadN K (q := 25) rfl d16_24 rfl rfl ?_
    refine Go.strEq K (q := 28) rfl (own_wordsEq hw) (hw _ (List.mem_of_getElem? (i := 6) rfl)) (y := (⟨"java/lang/String", "equals", "(Ljava/lang/Object;)Z"⟩ : MethodName)) (hw _ (List.mem_of_getElem? (i := 94) rfl)) (hw _ (List.mem_of_getElem? (i := 95) rfl)) (nfS (hw _ (List.mem_of_getElem? (i := 97) rfl))) (hw _ (List.mem_of_getElem? (i := 97) rfl)) (hw _ (List.mem_of_getElem? (i := 96) rfl)) (by decide) rfl (U_1.ext E0) (S1.ext E0) (Sa.ext E0) hz d16_25 (by decide) rfl (W := 0) (Nat.le_of_eq rfl) (by decide) (by decide) (by decide) (fun f1 => ?_) (fun f1 => ?_)
    · skip
      refine Go.ifN K (q := 31) rfl d16_28 (show ¬ (1 : Int32) = (0 : Int32) from (by decide)) ?_
      refine Go.aload K (q := 33) rfl d16_31 rfl rfl ?_
      refine Go.cS K (q := 36) rfl (y := (⟨"java/util/Optional", "of", "(Ljava/lang/Object;)Ljava/util/Optional;"⟩ : MethodName)) (c_oof l Z a0 hw xs n0 h1 (Nat.le_trans Z0 E0.1) ki_1) (hw _ (List.mem_of_getElem? (i := 133) rfl)) (hw _ (List.mem_of_getElem? (i := 134) rfl)) (hw _ (List.mem_of_getElem? (i := 108) rfl)) (hw _ (List.mem_of_getElem? (i := 135) rfl)) (by decide) pd4 (argsL := [(.ref ki_1)]) (rest := []) rfl rfl rfl rfl (W := 0) (Nat.le_of_eq rfl) (by decide) (by decide) d16_33 (cells' := 2) (slots' := 5) rfl rfl (by decide) (by decide) ?_
      intro r6 h5 hQ sz_h5
      obtain ⟨oo, rfl, N_o, X_o, F_o⟩ := hQ
      have E0 := Ext.trans E0 N_o
      show Go p l e _ s m _ below meth c _ _ _ _ _ _ _ _ _ h5 2 5 (mkF m 36 #[.val (.ref st), .val (.ref vb), .val (.int (4 : Int32)), .val (.int ((0 : Int32) + (1 : Int32))), .val (.ref ki_1)] [(.ref oo)])
      exact Go.retA K rfl rfl d16_36 (by decide) (by decide) (fun _ q => q) (⟨oo, rfl, E0, X_o, by rw [own_find, if_neg f0, if_pos f1]; exact F_o⟩)
    · skip
      refine Go.ifY K (q := 37) (by decide) (by decide) d16_28 (show (0 : Int32) = (0 : Int32) from rfl) ?_
      refine Go.iinc K (q := 40) rfl (L' := #[.val (.ref st), .val (.ref vb), .val (.int (4 : Int32)), .val (.int (((0 : Int32) + (1 : Int32)) + (1 : Int32))), .val (.ref ki_1)]) (y := (1 : Int32)) (by decide) d16_37 rfl rfl ?_
      refine Go.goto K (q := 9) (by decide) (by decide) d16_40 ?_
      refine Go.iloadN K (q := 10) rfl d16_9 rfl ?_
      refine Go.iloadN K (q := 11) rfl d16_10 rfl ?_
      refine Go.icmpN K (q := 14) rfl d16_11 (show (((0 : Int32) + (1 : Int32)) + (1 : Int32)) < (4 : Int32) from (by decide)) ?_
      refine Go.aloadN K (q := 15) rfl d16_14 rfl rfl ?_
      refine Go.iloadN K (q := 16) rfl d16_15 rfl ?_
      refine Go.aaload K (q := 17) rfl A_v rfl d16_16 ⟨by decide, by decide⟩ (v := (.ref ki_2)) rfl ?_
      refine Go.astore K (q := 19) rfl (L' := #[.val (.ref st), .val (.ref vb), .val (.int (4 : Int32)), .val (.int (((0 : Int32) + (1 : Int32)) + (1 : Int32))), .val (.ref ki_2)]) d16_17 rfl rfl ?_
      refine Go.aload K (q := 21) rfl d16_19 rfl rfl ?_
      refine Go.getF K (q := 24) rfl (hw _ (List.mem_of_getElem? (i := 92) rfl)) Via.refl ((I_2.ext E0)) d16_21 ?_
      refine Go.aloadN K (q := 25) rfl d16_24 rfl rfl ?_
      refine Go.strEq K (q := 28) rfl (own_wordsEq hw) (hw _ (List.mem_of_getElem? (i := 6) rfl)) (y := (⟨"java/lang/String", "equals", "(Ljava/lang/Object;)Z"⟩ : MethodName)) (hw _ (List.mem_of_getElem? (i := 94) rfl)) (hw _ (List.mem_of_getElem? (i := 95) rfl)) (nfS (hw _ (List.mem_of_getElem? (i := 97) rfl))) (hw _ (List.mem_of_getElem? (i := 97) rfl)) (hw _ (List.mem_of_getElem? (i := 96) rfl)) (by decide) rfl (U_2.ext E0) (S1.ext E0) (Sa.ext E0) hz d16_25 (by decide) rfl (W := 0) (Nat.le_of_eq rfl) (by decide) (by decide) (by decide) (fun f2 => ?_) (fun f2 => ?_)
      · skip
        refine Go.ifN K (q := 31) rfl d16_28 (show ¬ (1 : Int32) = (0 : Int32) from (by decide)) ?_
        refine Go.aload K (q := 33) rfl d16_31 rfl rfl ?_
        refine Go.cS K (q := 36) rfl (y := (⟨"java/util/Optional", "of", "(Ljava/lang/Object;)Ljava/util/Optional;"⟩ : MethodName)) (c_oof l Z a0 hw xs n0 h1 (Nat.le_trans Z0 E0.1) ki_2) (hw _ (List.mem_of_getElem? (i := 133) rfl)) (hw _ (List.mem_of_getElem? (i := 134) rfl)) (hw _ (List.mem_of_getElem? (i := 108) rfl)) (hw _ (List.mem_of_getElem? (i := 135) rfl)) (by decide) pd4 (argsL := [(.ref ki_2)]) (rest := []) rfl rfl rfl rfl (W := 0) (Nat.le_of_eq rfl) (by decide) (by decide) d16_33 (cells' := 2) (slots' := 5) rfl rfl (by decide) (by decide) ?_
        intro r8 h7 hQ sz_h7
        obtain ⟨oo, rfl, N_o, X_o, F_o⟩ := hQ
        have E0 := Ext.trans E0 N_o
        show Go p l e _ s m _ below meth c _ _ _ _ _ _ _ _ _ h7 2 5 (mkF m 36 #[.val (.ref st), .val (.ref vb), .val (.int (4 : Int32)), .val (.int (((0 : Int32) + (1 : Int32)) + (1 : Int32))), .val (.ref ki_2)] [(.ref oo)])
        exact Go.retA K rfl rfl d16_36 (by decide) (by decide) (fun _ q => q) (⟨oo, rfl, E0, X_o, by rw [own_find, if_neg f0, if_neg f1, if_pos f2]; exact F_o⟩)
      · skip
        refine Go.ifY K (q := 37) (by decide) (by decide) d16_28 (show (0 : Int32) = (0 : Int32) from rfl) ?_
        refine Go.iinc K (q := 40) rfl (L' := #[.val (.ref st), .val (.ref vb), .val (.int (4 : Int32)), .val (.int ((((0 : Int32) + (1 : Int32)) + (1 : Int32)) + (1 : Int32))), .val (.ref ki_2)]) (y := (1 : Int32)) (by decide) d16_37 rfl rfl ?_
        refine Go.goto K (q := 9) (by decide) (by decide) d16_40 ?_
        refine Go.iloadN K (q := 10) rfl d16_9 rfl ?_
        refine Go.iloadN K (q := 11) rfl d16_10 rfl ?_
        refine Go.icmpN K (q := 14) rfl d16_11 (show ((((0 : Int32) + (1 : Int32)) + (1 : Int32)) + (1 : Int32)) < (4 : Int32) from (by decide)) ?_
        refine Go.aloadN K (q := 15) rfl d16_14 rfl rfl ?_
        refine Go.iloadN K (q := 16) rfl d16_15 rfl ?_
        refine Go.aaload K (q := 17) rfl A_v rfl d16_16 ⟨by decide, by decide⟩ (v := (.ref ki_3)) rfl ?_
        refine Go.astore K (q := 19) rfl (L' := #[.val (.ref st), .val (.ref vb), .val (.int (4 : Int32)), .val (.int ((((0 : Int32) + (1 : Int32)) + (1 : Int32)) + (1 : Int32))), .val (.ref ki_3)]) d16_17 rfl rfl ?_
        refine Go.aload K (q := 21) rfl d16_19 rfl rfl ?_
        refine Go.getF K (q := 24) rfl (hw _ (List.mem_of_getElem? (i := 92) rfl)) Via.refl ((I_3.ext E0)) d16_21 ?_
        refine Go.aloadN K (q := 25) rfl d16_24 rfl rfl ?_
        refine Go.strEq K (q := 28) rfl (own_wordsEq hw) (hw _ (List.mem_of_getElem? (i := 6) rfl)) (y := (⟨"java/lang/String", "equals", "(Ljava/lang/Object;)Z"⟩ : MethodName)) (hw _ (List.mem_of_getElem? (i := 94) rfl)) (hw _ (List.mem_of_getElem? (i := 95) rfl)) (nfS (hw _ (List.mem_of_getElem? (i := 97) rfl))) (hw _ (List.mem_of_getElem? (i := 97) rfl)) (hw _ (List.mem_of_getElem? (i := 96) rfl)) (by decide) rfl (U_3.ext E0) (S1.ext E0) (Sa.ext E0) hz d16_25 (by decide) rfl (W := 0) (Nat.le_of_eq rfl) (by decide) (by decide) (by decide) (fun f3 => ?_) (fun f3 => ?_)
        · skip
          refine Go.ifN K (q := 31) rfl d16_28 (show ¬ (1 : Int32) = (0 : Int32) from (by decide)) ?_
          refine Go.aload K (q := 33) rfl d16_31 rfl rfl ?_
          refine Go.cS K (q := 36) rfl (y := (⟨"java/util/Optional", "of", "(Ljava/lang/Object;)Ljava/util/Optional;"⟩ : MethodName)) (c_oof l Z a0 hw xs n0 h1 (Nat.le_trans Z0 E0.1) ki_3) (hw _ (List.mem_of_getElem? (i := 133) rfl)) (hw _ (List.mem_of_getElem? (i := 134) rfl)) (hw _ (List.mem_of_getElem? (i := 108) rfl)) (hw _ (List.mem_of_getElem? (i := 135) rfl)) (by decide) pd4 (argsL := [(.ref ki_3)]) (rest := []) rfl rfl rfl rfl (W := 0) (Nat.le_of_eq rfl) (by decide) (by decide) d16_33 (cells' := 2) (slots' := 5) rfl rfl (by decide) (by decide) ?_
          intro r10 h9 hQ sz_h9
          obtain ⟨oo, rfl, N_o, X_o, F_o⟩ := hQ
          have E0 := Ext.trans E0 N_o
          show Go p l e _ s m _ below meth c _ _ _ _ _ _ _ _ _ h9 2 5 (mkF m 36 #[.val (.ref st), .val (.ref vb), .val (.int (4 : Int32)), .val (.int ((((0 : Int32) + (1 : Int32)) + (1 : Int32)) + (1 : Int32))), .val (.ref ki_3)] [(.ref oo)])
          exact Go.retA K rfl rfl d16_36 (by decide) (by decide) (fun _ q => q) (⟨oo, rfl, E0, X_o, by rw [own_find, if_neg f0, if_neg f1, if_neg f2, if_pos f3]; exact F_o⟩)
        · skip
          refine Go.ifY K (q := 37) (by decide) (by decide) d16_28 (show (0 : Int32) = (0 : Int32) from rfl) ?_
          refine Go.iinc K (q := 40) rfl (L' := #[.val (.ref st), .val (.ref vb), .val (.int (4 : Int32)), .val (.int (((((0 : Int32) + (1 : Int32)) + (1 : Int32)) + (1 : Int32)) + (1 : Int32))), .val (.ref ki_3)]) (y := (1 : Int32)) (by decide) d16_37 rfl rfl ?_
          refine Go.goto K (q := 9) (by decide) (by decide) d16_40 ?_
          refine Go.iloadN K (q := 10) rfl d16_9 rfl ?_
          refine Go.iloadN K (q := 11) rfl d16_10 rfl ?_
          refine Go.icmpY K (q := 43) (by decide) (by decide) d16_11 (show ¬ (((((0 : Int32) + (1 : Int32)) + (1 : Int32)) + (1 : Int32)) + (1 : Int32)) < (4 : Int32) from (by decide)) ?_
          refine Go.cS K (q := 46) rfl (y := (⟨"java/util/Optional", "empty", "()Ljava/util/Optional;"⟩ : MethodName)) (c_oem l Z a0 hw xs n0 h1 (Nat.le_trans Z0 E0.1) oe (SE.ext E0)) (hw _ (List.mem_of_getElem? (i := 106) rfl)) (hw _ (List.mem_of_getElem? (i := 107) rfl)) (hw _ (List.mem_of_getElem? (i := 108) rfl)) (hw _ (List.mem_of_getElem? (i := 109) rfl)) (by decide) pd5 (argsL := []) (rest := []) rfl rfl rfl rfl (W := 0) (Nat.le_of_eq rfl) (by decide) (by decide) d16_43 (cells' := 1) (slots' := 4) rfl rfl (by decide) (by decide) ?_
          intro r12 h11 hQ sz_h11
          obtain ⟨rfl, rfl⟩ := hQ
          show Go p l e _ s m _ below meth c _ _ _ _ _ _ _ _ _ h1 1 4 (mkF m 46 #[.val (.ref st), .val (.ref vb), .val (.int (4 : Int32)), .val (.int (((((0 : Int32) + (1 : Int32)) + (1 : Int32)) + (1 : Int32)) + (1 : Int32))), .val (.ref ki_3)] [(.ref oe)])
          exact Go.retA K rfl rfl d16_46 (by decide) (by decide) (fun _ q => q) (⟨oe, rfl, E0, XE.ext E0, by rw [own_find, if_neg f0, if_neg f1, if_neg f2, if_neg f3]; exact FE.ext E0⟩)
set_option maxRecDepth 65536 in
set_option maxHeartbeats 40000000 in
theorem rm0 (l : Launch) (Z : State) (a0 : Array Value) (hw : ∀ d ∈ tables_1, d.before a0 Z = true) (ws : List Jvm.Cond) (xs : List Addr) (n0 : Nat) (h : Heap) (Z0 : n0 ≤ h.size) (sel pos ch : Int32) (z : Int32) (Sa : Sta Z h "java/lang/String" "COMPACT_STRINGS" "Z" (.int z)) (hz : ¬ z = 0) (fm : Value) (rf : fm.isRef = true) (Sf : Sta Z h "jdk/internal/util/Preconditions" "SIOOBE_FORMATTER" "Ljava/util/function/BiFunction;" fm) (ki_0 ki_1 ki_2 ki_3 : Addr) (va : Addr) (kv : ClassId) (SV : Sta Z h "com/example/tasklane/tasklane/engine/TaskSort" "$VALUES" "[Lcom/example/tasklane/tasklane/engine/TaskSort;" (.ref va)) (AV : Arv Z h va kv (.object "com/example/tasklane/tasklane/engine/TaskSort") (4 : Int32) [.ref ki_0, .ref ki_1, .ref ki_2, .ref ki_3] .null) (XV : Exa Z h va "[Lcom/example/tasklane/tasklane/engine/TaskSort;") (si_0 si_1 si_2 si_3 : Addr) (I_0 : Fld Z h ki_0 "com/example/tasklane/tasklane/engine/TaskSort" "id" "Ljava/lang/String;" (.ref si_0)) (U_0 : Str Z h si_0 (own_nm 0)) (I_1 : Fld Z h ki_1 "com/example/tasklane/tasklane/engine/TaskSort" "id" "Ljava/lang/String;" (.ref si_1)) (U_1 : Str Z h si_1 (own_nm 1)) (I_2 : Fld Z h ki_2 "com/example/tasklane/tasklane/engine/TaskSort" "id" "Ljava/lang/String;" (.ref si_2)) (U_2 : Str Z h si_2 (own_nm 2)) (I_3 : Fld Z h ki_3 "com/example/tasklane/tasklane/engine/TaskSort" "id" "Ljava/lang/String;" (.ref si_3)) (U_3 : Str Z h si_3 (own_nm 3)) (oe : Addr) (SE : Sta Z h "java/util/Optional" "EMPTY" "Ljava/util/Optional;" (.ref oe)) (XE : Exa Z h oe "java/util/Optional") (FE : Fld Z h oe "java/util/Optional" "value" "Ljava/lang/Object;" .null) (T_0 : Sta Z h "com/example/tasklane/tasklane/engine/TaskSort" "CREATED_AT" "Lcom/example/tasklane/tasklane/engine/TaskSort;" (.ref ki_0)) (T_1 : Sta Z h "com/example/tasklane/tasklane/engine/TaskSort" "PRIORITY" "Lcom/example/tasklane/tasklane/engine/TaskSort;" (.ref ki_1)) (T_2 : Sta Z h "com/example/tasklane/tasklane/engine/TaskSort" "DUE_DATE" "Lcom/example/tasklane/tasklane/engine/TaskSort;" (.ref ki_2)) (T_3 : Sta Z h "com/example/tasklane/tasklane/engine/TaskSort" "NAME" "Lcom/example/tasklane/tasklane/engine/TaskSort;" (.ref ki_3)) :
    Ctr l Z consts_1 xs n0 x code maxLocals ret ws room_1 #[(.int sel), (.int pos), (.int ch)] h (fun v h' => v = some (.int 1)) := by
  refine Ctr.body pn15 ?_
  intro p e s m below meth c K
  refine Go.entry (f' := (mkF m 0 #[.val (.int sel), .val (.int pos), .val (.int ch), .unset, .unset, .unset, .unset, .unset, .unset, .unset, .unset, .unset, .unset] [])) (by first | (simp [entryFrame, mkF, argsToLocals, Value.category, maxLocals]; done) | rfl) ?_
  have E0 := Ext.refl h
  refine Go.iloadN K (q := 1) rfl at_0 rfl ?_
  refine Go.iconst K (q := 2) rfl (v := (3 : Int32)) (by decide) at_1 ?_
  refine Go.iand K (q := 3) rfl at_2 ?_
  generalize ek1 : (sel &&& (3 : Int32)) = k1
  refine Go.istoreN K (q := 4) rfl (L' := #[.val (.int sel), .val (.int pos), .val (.int ch), .val (.int k1), .unset, .unset, .unset, .unset, .unset, .unset, .unset, .unset, .unset]) at_3 rfl ?_
  refine Go.iloadN K (q := 5) rfl at_4 rfl ?_
  refine Go.iconst K (q := 6) rfl (v := (2 : Int32)) (by decide) at_5 ?_
  refine Go.iushr K (q := 7) rfl at_6 ?_
  refine Go.iconst K (q := 8) rfl (v := (3 : Int32)) (by decide) at_7 ?_
  refine Go.iand K (q := 9) rfl at_8 ?_
  generalize esh2 : (((sel.toUInt32 >>> ((2 : Int32) &&& 31).toUInt32).toInt32) &&& (3 : Int32)) = sh2
  refine Go.istore K (q := 11) rfl (L' := #[.val (.int sel), .val (.int pos), .val (.int ch), .val (.int k1), .val (.int sh2), .unset, .unset, .unset, .unset, .unset, .unset, .unset, .unset]) at_9 rfl ?_
  refine Go.iloadN K (q := 12) rfl at_11 rfl ?_
  show Go p l e _ s m _ below meth c _ _ _ _ _ _ _ _ _ h 0 0 (mkF m 12 #[.val (.int sel), .val (.int pos), .val (.int ch), .val (.int k1), .val (.int sh2), .unset, .unset, .unset, .unset, .unset, .unset, .unset, .unset] [(.int k1)])
  refine Go.cS K (q := 15) rfl (y := (⟨"com/example/tasklane/tasklane/engine/TaskSortFromIdPinLaw", "name", "(I)Ljava/lang/String;"⟩ : MethodName)) (c_name l Z a0 hw xs n0 h Z0 k1) (hw _ (List.mem_of_getElem? (i := 0) rfl)) (hw _ (List.mem_of_getElem? (i := 1) rfl)) (hw _ (List.mem_of_getElem? (i := 2) rfl)) (hw _ (List.mem_of_getElem? (i := 3) rfl)) (by decide) pd6 (argsL := [(.int k1)]) (rest := []) rfl rfl rfl rfl (W := 0) (Nat.le_of_eq rfl) (by decide) (by decide) at_12 (cells' := 2) (slots' := 40) rfl rfl (by decide) (by decide) ?_
  intro r4 h3 hQ sz_h3
  obtain ⟨nn, rfl, N_n, S_n⟩ := hQ
  have E0 := Ext.trans E0 N_n
  show Go p l e _ s m _ below meth c _ _ _ _ _ _ _ _ _ h3 2 40 (mkF m 15 #[.val (.int sel), .val (.int pos), .val (.int ch), .val (.int k1), .val (.int sh2), .unset, .unset, .unset, .unset, .unset, .unset, .unset, .unset] [(.ref nn)])
  refine Go.astore K (q := 17) rfl (L' := #[.val (.int sel), .val (.int pos), .val (.int ch), .val (.int k1), .val (.int sh2), .val (.ref nn), .unset, .unset, .unset, .unset, .unset, .unset, .unset]) at_15 rfl rfl ?_
  refine Go.aload K (q := 19) rfl at_17 rfl rfl ?_
  refine Go.strLen K (q := 22) rfl (own_wordsLen hw) (hw _ (List.mem_of_getElem? (i := 6) rfl)) (hw _ (List.mem_of_getElem? (i := 12) rfl)) (hw _ (List.mem_of_getElem? (i := 13) rfl)) (hw _ (List.mem_of_getElem? (i := 15) rfl)) (hw _ (List.mem_of_getElem? (i := 14) rfl)) (S_n) (Sa.ext E0) hz at_19 (by decide) rfl (W := 0) (Nat.le_of_eq rfl) (by decide) (by decide) (by decide) ?_
  refine Go.istore K (q := 24) rfl (L' := #[.val (.int sel), .val (.int pos), .val (.int ch), .val (.int k1), .val (.int sh2), .val (.ref nn), .val (.int (Int32.ofNat (own_nm k1).length)), .unset, .unset, .unset, .unset, .unset, .unset]) at_22 rfl ?_
  refine Go.iloadN K (q := 25) rfl at_24 rfl ?_
  refine Go.ldcInt K (q := 27) rfl (v := (2147483647 : Int32)) (hw _ (List.mem_of_getElem? (i := 25) rfl)) at_25 ?_
  refine Go.iand K (q := 28) rfl at_27 ?_
  refine Go.iload K (q := 30) rfl at_28 rfl ?_
  refine Go.irem K (q := 31) rfl at_30 (own_nz k1) ?_
  obtain ⟨i, hi, ep⟩ := own_p k1 pos
  rw [ep]
  show Go p l e _ s m _ below meth c _ _ _ _ _ _ _ _ _ h3 2 40 (mkF m 31 #[.val (.int sel), .val (.int pos), .val (.int ch), .val (.int k1), .val (.int sh2), .val (.ref nn), .val (.int (Int32.ofNat (own_nm k1).length)), .unset, .unset, .unset, .unset, .unset, .unset] [(.int (Int32.ofNat i))])
  refine Go.istore K (q := 33) rfl (L' := #[.val (.int sel), .val (.int pos), .val (.int ch), .val (.int k1), .val (.int sh2), .val (.ref nn), .val (.int (Int32.ofNat (own_nm k1).length)), .val (.int (Int32.ofNat i)), .unset, .unset, .unset, .unset, .unset]) at_31 rfl ?_
  refine Go.aload K (q := 35) rfl at_33 rfl rfl ?_
  refine Go.iload K (q := 37) rfl at_35 rfl ?_
  refine Go.strCh K (q := 40) rfl (own_wordsChN hw) (hw _ (List.mem_of_getElem? (i := 6) rfl)) (hw _ (List.mem_of_getElem? (i := 26) rfl)) (hw _ (List.mem_of_getElem? (i := 27) rfl)) (hw _ (List.mem_of_getElem? (i := 29) rfl)) (hw _ (List.mem_of_getElem? (i := 28) rfl)) (S_n) (Sa.ext E0) hz (Sf.ext E0) rf (own_nl k1) (hi) (rfl) at_37 (by decide) rfl (W := 0) (Nat.le_of_eq rfl) (by decide) (by decide) (by decide) ?_
  have hog := own_nr k1 i hi
  generalize eo : (own_nm k1).getD i 0 = og at hog
  show Go p l e _ s m _ below meth c _ _ _ _ _ _ _ _ _ h3 2 40 (mkF m 40 #[.val (.int sel), .val (.int pos), .val (.int ch), .val (.int k1), .val (.int sh2), .val (.ref nn), .val (.int (Int32.ofNat (own_nm k1).length)), .val (.int (Int32.ofNat i)), .unset, .unset, .unset, .unset, .unset] [(.int og)])
  refine Go.istore K (q := 42) rfl (L' := #[.val (.int sel), .val (.int pos), .val (.int ch), .val (.int k1), .val (.int sh2), .val (.ref nn), .val (.int (Int32.ofNat (own_nm k1).length)), .val (.int (Int32.ofNat i)), .val (.int og), .unset, .unset, .unset, .unset]) at_40 rfl ?_
  refine Go.iloadN K (q := 43) rfl at_42 rfl ?_
  refine Go.sipush K (q := 46) rfl (v := (256 : Int32)) (by decide) at_43 ?_
  refine Go.iand K (q := 47) rfl at_46 ?_
  have key : ∀ cc : Int32, (¬ cc < 0 ∧ ¬ (255 : Int32) < cc) → Go p l e room_1 s m #[(.int sel), (.int pos), (.int ch)] below meth c Z "com/example/tasklane/tasklane/engine/TaskSortFromIdPinLaw" consts_1 xs n0 room_1.cells room_1.slots (fun v h' => v = some (.int 1)) xs h3 2 40 (mkF m 61 #[.val (.int sel), .val (.int pos), .val (.int ch), .val (.int k1), .val (.int sh2), .val (.ref nn), .val (.int (Int32.ofNat (own_nm k1).length)), .val (.int (Int32.ofNat i)), .val (.int og), .unset, .unset, .unset, .unset] [(.int cc)]) := by
    intro cc hcc
    refine Go.istore K (q := 63) rfl (L' := #[.val (.int sel), .val (.int pos), .val (.int ch), .val (.int k1), .val (.int sh2), .val (.ref nn), .val (.int (Int32.ofNat (own_nm k1).length)), .val (.int (Int32.ofNat i)), .val (.int og), .val (.int cc), .unset, .unset, .unset]) at_61 rfl ?_
    refine Go.iload K (q := 65) rfl at_63 rfl ?_
    refine Go.ifc K (q := 98) (q' := 68) (by decide) (by decide) rfl at_65 (fun (q0 : ¬ sh2 = (0 : Int32)) => ?_) (fun (q0 : sh2 = (0 : Int32)) => ?_)
    · skip
      refine Go.iload K (q := 100) rfl at_98 rfl ?_
      refine Go.iconst K (q := 101) rfl (v := (1 : Int32)) (by decide) at_100 ?_
      refine Go.icmp K (q := 116) (q' := 104) (by decide) (by decide) rfl at_101 (fun (q1 : ¬ sh2 = (1 : Int32)) => ?_) (fun (q1 : sh2 = (1 : Int32)) => ?_)
      · skip
        refine Go.iload K (q := 118) rfl at_116 rfl ?_
        refine Go.iconst K (q := 119) rfl (v := (2 : Int32)) (by decide) at_118 ?_
        refine Go.icmp K (q := 136) (q' := 122) (by decide) (by decide) rfl at_119 (fun (q2 : ¬ sh2 = (2 : Int32)) => ?_) (fun (q2 : sh2 = (2 : Int32)) => ?_)
        · skip
          refine Go.new K (q := 139) rfl (hw _ (List.mem_of_getElem? (i := 52) rfl)) (hw _ (List.mem_of_getElem? (i := 6) rfl)) (hw _ (List.mem_of_getElem? (i := 5) rfl)) at_136 (cells' := 3) (slots' := 44) rfl rfl (by decide) (by decide) ?_
          intro h6 a5 g_a5 N_a5 X_a5 D_a5
          have ge_E0_a5 : h.size ≤ a5 := Nat.le_trans E0.1 (Nat.le_of_eq g_a5.symm)
          have E0 := Ext.trans E0 N_a5
          have Fv_a5 : Fld Z h6 a5 "java/lang/String" "value" "[B" .null := D_a5 (Or.inr (hw _ (List.mem_of_getElem? (i := 8) rfl))) (ty := .array .byte) (by decide)
          have Fc_a5 : Fld Z h6 a5 "java/lang/String" "coder" "B" (.int (0 : Int32)) := D_a5 (Or.inr (hw _ (List.mem_of_getElem? (i := 9) rfl))) (ty := .byte) (by decide)
          have n_a5 : n0 ≤ a5 := Nat.le_trans Z0 ge_E0_a5
          refine Go.dup K (q := 140) rfl at_139 rfl ?_
          refine Go.iconst K (q := 141) rfl (v := (0 : Int32)) (by decide) at_140 ?_
          refine Go.newarr K (q := 143) rfl (hw _ (List.mem_of_getElem? (i := 51) rfl)) at_141 (by decide) (cap := 0) (by decide) (by decide) (cells' := 4) (slots' := 44) rfl rfl (by decide) (by decide) ?_
          intro h8 a7 k_a7 g_a7 N_a7 V_a7
          have V_a7 : Arv Z h8 a7 k_a7 .char (0 : Int32) [] (.int (0 : Int32)) := V_a7
          have ge_E0_a7 : h.size ≤ a7 := Nat.le_trans E0.1 (Nat.le_of_eq g_a7.symm)
          have E0 := Ext.trans E0 N_a7
          have X_a5 := X_a5.ext N_a7
          have Fv_a5 := Fv_a5.ext N_a7
          have Fc_a5 := Fc_a5.ext N_a7
          refine Go.cI K (q := 146) rfl (y := (⟨"java/lang/String", "<init>", "([C)V"⟩ : MethodName)) (c_e1 l Z a0 hw (a7 :: a5 :: xs) n0 h8 (Nat.le_trans Z0 E0.1) a5 a7 _ _ _ _ (List.mem_cons_of_mem _ List.mem_cons_self) n_a5 X_a5 Fv_a5 Fc_a5 V_a7) rfl (hw _ (List.mem_of_getElem? (i := 53) rfl)) (hw _ (List.mem_of_getElem? (i := 54) rfl)) (hw _ (List.mem_of_getElem? (i := 5) rfl)) (hw _ (List.mem_of_getElem? (i := 55) rfl)) (by decide) (a := a5) pd7 (argsL := [(.ref a7)]) (rest := [(.ref a5)]) rfl rfl rfl rfl (W := 1) (Nat.le_of_eq rfl) (by decide) (by decide) at_143 (cells' := 8) (slots' := 52) rfl rfl (by decide) (by decide) ?_
          intro r11 h10 hQ sz_h10
          obtain ⟨rfl, K9, S_a5⟩ := hQ
          have E0 := Ext.keep E0 K9 (allS ge_E0_a5 all0)
          show Go p l e _ s m _ below meth c _ _ _ _ _ _ _ _ _ h10 8 52 (mkF m 146 #[.val (.int sel), .val (.int pos), .val (.int ch), .val (.int k1), .val (.int sh2), .val (.ref nn), .val (.int (Int32.ofNat (own_nm k1).length)), .val (.int (Int32.ofNat i)), .val (.int og), .val (.int cc), .unset, .unset, .unset] [(.ref a5)])
          refine Go.astore K (q := 148) rfl (L' := #[.val (.int sel), .val (.int pos), .val (.int ch), .val (.int k1), .val (.int sh2), .val (.ref nn), .val (.int (Int32.ofNat (own_nm k1).length)), .val (.int (Int32.ofNat i)), .val (.int og), .val (.int cc), .val (.ref a5), .unset, .unset]) at_146 rfl rfl ?_
          refine Go.aconstNull K (q := 149) rfl at_148 ?_
          refine Go.astore K (q := 151) rfl (L' := #[.val (.int sel), .val (.int pos), .val (.int ch), .val (.int k1), .val (.int sh2), .val (.ref nn), .val (.int (Int32.ofNat (own_nm k1).length)), .val (.int (Int32.ofNat i)), .val (.int og), .val (.int cc), .val (.ref a5), .val .null, .unset]) at_149 rfl rfl ?_
          refine Go.aload K (q := 153) rfl at_151 rfl rfl ?_
          refine Go.cS K (q := 156) rfl (y := (⟨"com/example/tasklane/tasklane/engine/TaskSort", "fromId", "(Ljava/lang/String;)Ljava/util/Optional;"⟩ : MethodName)) (c_from l Z a0 hw (a7 :: a5 :: xs) n0 h10 (Nat.le_trans Z0 E0.1) a5 _ S_a5 z (Sa.ext E0) hz ki_0 ki_1 ki_2 ki_3 va kv (SV.ext E0) (AV.ext E0) (XV.ext E0) si_0 si_1 si_2 si_3 (I_0.ext E0) (U_0.ext E0) (I_1.ext E0) (U_1.ext E0) (I_2.ext E0) (U_2.ext E0) (I_3.ext E0) (U_3.ext E0) oe (SE.ext E0) (XE.ext E0) (FE.ext E0)) (hw _ (List.mem_of_getElem? (i := 73) rfl)) (hw _ (List.mem_of_getElem? (i := 74) rfl)) (hw _ (List.mem_of_getElem? (i := 75) rfl)) (hw _ (List.mem_of_getElem? (i := 76) rfl)) (by decide) pd8 (argsL := [(.ref a5)]) (rest := []) rfl rfl rfl rfl (W := 0) (Nat.le_of_eq rfl) (by decide) (by decide) at_153 (cells' := 10) (slots' := 57) rfl rfl (by decide) (by decide) ?_
          intro r13 h12 hQ sz_h12
          obtain ⟨oo, rfl, N_o, X_o, F_o⟩ := hQ
          have E0 := Ext.trans E0 N_o
          show Go p l e _ s m _ below meth c _ _ _ _ _ _ _ _ _ h12 10 57 (mkF m 156 #[.val (.int sel), .val (.int pos), .val (.int ch), .val (.int k1), .val (.int sh2), .val (.ref nn), .val (.int (Int32.ofNat (own_nm k1).length)), .val (.int (Int32.ofNat i)), .val (.int og), .val (.int cc), .val (.ref a5), .val .null, .unset] [(.ref oo)])
          rw [own_f4 ki_0 ki_1 ki_2 ki_3] at F_o
          refine Go.astore K (q := 158) rfl (L' := #[.val (.int sel), .val (.int pos), .val (.int ch), .val (.int k1), .val (.int sh2), .val (.ref nn), .val (.int (Int32.ofNat (own_nm k1).length)), .val (.int (Int32.ofNat i)), .val (.int og), .val (.int cc), .val (.ref a5), .val .null, .val (.ref oo)]) at_156 rfl rfl ?_
          refine Go.aload K (q := 160) rfl at_158 rfl rfl ?_
          refine Go.ifnonnullN K (q := 163) rfl at_160 ?_
          refine Go.aload K (q := 165) rfl at_163 rfl rfl ?_
          refine Go.cV K (q := 168) rfl (y := (⟨"java/util/Optional", "isPresent", "()Z"⟩ : MethodName)) (z := (⟨"java/util/Optional", "isPresent", "()Z"⟩ : MethodName)) (c_oip0 l Z a0 hw (a7 :: a5 :: xs) n0 h12 (Nat.le_trans Z0 E0.1) oo F_o) (hw _ (List.mem_of_getElem? (i := 111) rfl)) (hw _ (List.mem_of_getElem? (i := 112) rfl)) (nfS (hw _ (List.mem_of_getElem? (i := 114) rfl))) (hw _ (List.mem_of_getElem? (i := 114) rfl)) (hw _ (List.mem_of_getElem? (i := 113) rfl)) (hw _ (List.mem_of_getElem? (i := 108) rfl)) (hw _ (List.mem_of_getElem? (i := 115) rfl)) (by decide) (isa_of X_o) pd9 (argsL := []) (rest := []) rfl rfl rfl rfl (W := 0) (Nat.le_of_eq rfl) (by decide) (by decide) at_165 (cells' := 10) (slots' := 57) rfl rfl (by decide) (by decide) ?_
          intro r15 h14 hQ sz_h14
          obtain ⟨rfl, rfl⟩ := hQ
          show Go p l e _ s m _ below meth c _ _ _ _ _ _ _ _ _ h12 10 57 (mkF m 168 #[.val (.int sel), .val (.int pos), .val (.int ch), .val (.int k1), .val (.int sh2), .val (.ref nn), .val (.int (Int32.ofNat (own_nm k1).length)), .val (.int (Int32.ofNat i)), .val (.int og), .val (.int cc), .val (.ref a5), .val .null, .val (.ref oo)] [(.int (0 : Int32))])
          refine Go.ifN K (q := 171) rfl at_168 (show (0 : Int32) = (0 : Int32) from rfl) ?_
          refine Go.iconst K (q := 172) rfl (v := (1 : Int32)) (by decide) at_171 ?_
          refine Go.goto K (q := 176) (by decide) (by decide) at_172 ?_
          exact Go.retN K (by simp) at_176 (by decide) (by decide) (fun _ q => (List.mem_cons_of_mem _ (List.mem_cons_of_mem _ q))) (rfl)
        · skip
          refine Go.iloadN K (q := 123) rfl at_122 rfl ?_
          refine Go.iload K (q := 125) rfl at_123 rfl ?_
          refine Go.cS K (q := 128) rfl (y := (⟨"com/example/tasklane/tasklane/engine/TaskSortFromIdPinLaw", "extended", "(IC)Ljava/lang/String;"⟩ : MethodName)) (c_ext l Z a0 hw xs n0 h3 (Nat.le_trans Z0 E0.1) k1 cc hcc z (Sa.ext E0) hz) (hw _ (List.mem_of_getElem? (i := 124) rfl)) (hw _ (List.mem_of_getElem? (i := 125) rfl)) (hw _ (List.mem_of_getElem? (i := 2) rfl)) (hw _ (List.mem_of_getElem? (i := 126) rfl)) (by decide) pd10 (argsL := [(.int k1), (.int cc)]) (rest := []) rfl rfl rfl rfl (W := 0) (Nat.le_of_eq rfl) (by decide) (by decide) at_125 (cells' := 5) (slots' := 64) rfl rfl (by decide) (by decide) ?_
          intro r17 h16 hQ sz_h16
          obtain ⟨sr, rfl, N_s, S_s⟩ := hQ
          have E0 := Ext.trans E0 N_s
          show Go p l e _ s m _ below meth c _ _ _ _ _ _ _ _ _ h16 5 64 (mkF m 128 #[.val (.int sel), .val (.int pos), .val (.int ch), .val (.int k1), .val (.int sh2), .val (.ref nn), .val (.int (Int32.ofNat (own_nm k1).length)), .val (.int (Int32.ofNat i)), .val (.int og), .val (.int cc), .unset, .unset, .unset] [(.ref sr)])
          refine Go.astore K (q := 130) rfl (L' := #[.val (.int sel), .val (.int pos), .val (.int ch), .val (.int k1), .val (.int sh2), .val (.ref nn), .val (.int (Int32.ofNat (own_nm k1).length)), .val (.int (Int32.ofNat i)), .val (.int og), .val (.int cc), .val (.ref sr), .unset, .unset]) at_128 rfl rfl ?_
          refine Go.aconstNull K (q := 131) rfl at_130 ?_
          refine Go.astore K (q := 133) rfl (L' := #[.val (.int sel), .val (.int pos), .val (.int ch), .val (.int k1), .val (.int sh2), .val (.ref nn), .val (.int (Int32.ofNat (own_nm k1).length)), .val (.int (Int32.ofNat i)), .val (.int og), .val (.int cc), .val (.ref sr), .val .null, .unset]) at_131 rfl rfl ?_
          refine Go.goto K (q := 151) (by decide) (by decide) at_133 ?_
          refine Go.aload K (q := 153) rfl at_151 rfl rfl ?_
          refine Go.cS K (q := 156) rfl (y := (⟨"com/example/tasklane/tasklane/engine/TaskSort", "fromId", "(Ljava/lang/String;)Ljava/util/Optional;"⟩ : MethodName)) (c_from l Z a0 hw xs n0 h16 (Nat.le_trans Z0 E0.1) sr _ S_s z (Sa.ext E0) hz ki_0 ki_1 ki_2 ki_3 va kv (SV.ext E0) (AV.ext E0) (XV.ext E0) si_0 si_1 si_2 si_3 (I_0.ext E0) (U_0.ext E0) (I_1.ext E0) (U_1.ext E0) (I_2.ext E0) (U_2.ext E0) (I_3.ext E0) (U_3.ext E0) oe (SE.ext E0) (XE.ext E0) (FE.ext E0)) (hw _ (List.mem_of_getElem? (i := 73) rfl)) (hw _ (List.mem_of_getElem? (i := 74) rfl)) (hw _ (List.mem_of_getElem? (i := 75) rfl)) (hw _ (List.mem_of_getElem? (i := 76) rfl)) (by decide) pd8 (argsL := [(.ref sr)]) (rest := []) rfl rfl rfl rfl (W := 0) (Nat.le_of_eq rfl) (by decide) (by decide) at_153 (cells' := 7) (slots' := 69) rfl rfl (by decide) (by decide) ?_
          intro r19 h18 hQ sz_h18
          obtain ⟨oo, rfl, N_o, X_o, F_o⟩ := hQ
          have E0 := Ext.trans E0 N_o
          show Go p l e _ s m _ below meth c _ _ _ _ _ _ _ _ _ h18 7 69 (mkF m 156 #[.val (.int sel), .val (.int pos), .val (.int ch), .val (.int k1), .val (.int sh2), .val (.ref nn), .val (.int (Int32.ofNat (own_nm k1).length)), .val (.int (Int32.ofNat i)), .val (.int og), .val (.int cc), .val (.ref sr), .val .null, .unset] [(.ref oo)])
          rw [own_f3 ki_0 ki_1 ki_2 ki_3 k1 cc] at F_o
          refine Go.astore K (q := 158) rfl (L' := #[.val (.int sel), .val (.int pos), .val (.int ch), .val (.int k1), .val (.int sh2), .val (.ref nn), .val (.int (Int32.ofNat (own_nm k1).length)), .val (.int (Int32.ofNat i)), .val (.int og), .val (.int cc), .val (.ref sr), .val .null, .val (.ref oo)]) at_156 rfl rfl ?_
          refine Go.aload K (q := 160) rfl at_158 rfl rfl ?_
          refine Go.ifnonnullN K (q := 163) rfl at_160 ?_
          refine Go.aload K (q := 165) rfl at_163 rfl rfl ?_
          refine Go.cV K (q := 168) rfl (y := (⟨"java/util/Optional", "isPresent", "()Z"⟩ : MethodName)) (z := (⟨"java/util/Optional", "isPresent", "()Z"⟩ : MethodName)) (c_oip0 l Z a0 hw xs n0 h18 (Nat.le_trans Z0 E0.1) oo F_o) (hw _ (List.mem_of_getElem? (i := 111) rfl)) (hw _ (List.mem_of_getElem? (i := 112) rfl)) (nfS (hw _ (List.mem_of_getElem? (i := 114) rfl))) (hw _ (List.mem_of_getElem? (i := 114) rfl)) (hw _ (List.mem_of_getElem? (i := 113) rfl)) (hw _ (List.mem_of_getElem? (i := 108) rfl)) (hw _ (List.mem_of_getElem? (i := 115) rfl)) (by decide) (isa_of X_o) pd9 (argsL := []) (rest := []) rfl rfl rfl rfl (W := 0) (Nat.le_of_eq rfl) (by decide) (by decide) at_165 (cells' := 7) (slots' := 69) rfl rfl (by decide) (by decide) ?_
          intro r21 h20 hQ sz_h20
          obtain ⟨rfl, rfl⟩ := hQ
          show Go p l e _ s m _ below meth c _ _ _ _ _ _ _ _ _ h18 7 69 (mkF m 168 #[.val (.int sel), .val (.int pos), .val (.int ch), .val (.int k1), .val (.int sh2), .val (.ref nn), .val (.int (Int32.ofNat (own_nm k1).length)), .val (.int (Int32.ofNat i)), .val (.int og), .val (.int cc), .val (.ref sr), .val .null, .val (.ref oo)] [(.int (0 : Int32))])
          refine Go.ifN K (q := 171) rfl at_168 (show (0 : Int32) = (0 : Int32) from rfl) ?_
          refine Go.iconst K (q := 172) rfl (v := (1 : Int32)) (by decide) at_171 ?_
          refine Go.goto K (q := 176) (by decide) (by decide) at_172 ?_
          exact Go.retN K (by simp) at_176 (by decide) (by decide) (fun _ q => q) (rfl)
      · skip
        refine Go.iloadN K (q := 105) rfl at_104 rfl ?_
        refine Go.cS K (q := 108) rfl (y := (⟨"com/example/tasklane/tasklane/engine/TaskSortFromIdPinLaw", "truncated", "(I)Ljava/lang/String;"⟩ : MethodName)) (c_trunc l Z a0 hw xs n0 h3 (Nat.le_trans Z0 E0.1) k1 z (Sa.ext E0) hz) (hw _ (List.mem_of_getElem? (i := 119) rfl)) (hw _ (List.mem_of_getElem? (i := 120) rfl)) (hw _ (List.mem_of_getElem? (i := 2) rfl)) (hw _ (List.mem_of_getElem? (i := 121) rfl)) (by decide) pd6 (argsL := [(.int k1)]) (rest := []) rfl rfl rfl rfl (W := 0) (Nat.le_of_eq rfl) (by decide) (by decide) at_105 (cells' := 5) (slots' := 60) rfl rfl (by decide) (by decide) ?_
        intro r23 h22 hQ sz_h22
        obtain ⟨sr, rfl, N_s, S_s⟩ := hQ
        have E0 := Ext.trans E0 N_s
        show Go p l e _ s m _ below meth c _ _ _ _ _ _ _ _ _ h22 5 60 (mkF m 108 #[.val (.int sel), .val (.int pos), .val (.int ch), .val (.int k1), .val (.int sh2), .val (.ref nn), .val (.int (Int32.ofNat (own_nm k1).length)), .val (.int (Int32.ofNat i)), .val (.int og), .val (.int cc), .unset, .unset, .unset] [(.ref sr)])
        refine Go.astore K (q := 110) rfl (L' := #[.val (.int sel), .val (.int pos), .val (.int ch), .val (.int k1), .val (.int sh2), .val (.ref nn), .val (.int (Int32.ofNat (own_nm k1).length)), .val (.int (Int32.ofNat i)), .val (.int og), .val (.int cc), .val (.ref sr), .unset, .unset]) at_108 rfl rfl ?_
        refine Go.aconstNull K (q := 111) rfl at_110 ?_
        refine Go.astore K (q := 113) rfl (L' := #[.val (.int sel), .val (.int pos), .val (.int ch), .val (.int k1), .val (.int sh2), .val (.ref nn), .val (.int (Int32.ofNat (own_nm k1).length)), .val (.int (Int32.ofNat i)), .val (.int og), .val (.int cc), .val (.ref sr), .val .null, .unset]) at_111 rfl rfl ?_
        refine Go.goto K (q := 151) (by decide) (by decide) at_113 ?_
        refine Go.aload K (q := 153) rfl at_151 rfl rfl ?_
        refine Go.cS K (q := 156) rfl (y := (⟨"com/example/tasklane/tasklane/engine/TaskSort", "fromId", "(Ljava/lang/String;)Ljava/util/Optional;"⟩ : MethodName)) (c_from l Z a0 hw xs n0 h22 (Nat.le_trans Z0 E0.1) sr _ S_s z (Sa.ext E0) hz ki_0 ki_1 ki_2 ki_3 va kv (SV.ext E0) (AV.ext E0) (XV.ext E0) si_0 si_1 si_2 si_3 (I_0.ext E0) (U_0.ext E0) (I_1.ext E0) (U_1.ext E0) (I_2.ext E0) (U_2.ext E0) (I_3.ext E0) (U_3.ext E0) oe (SE.ext E0) (XE.ext E0) (FE.ext E0)) (hw _ (List.mem_of_getElem? (i := 73) rfl)) (hw _ (List.mem_of_getElem? (i := 74) rfl)) (hw _ (List.mem_of_getElem? (i := 75) rfl)) (hw _ (List.mem_of_getElem? (i := 76) rfl)) (by decide) pd8 (argsL := [(.ref sr)]) (rest := []) rfl rfl rfl rfl (W := 0) (Nat.le_of_eq rfl) (by decide) (by decide) at_153 (cells' := 7) (slots' := 65) rfl rfl (by decide) (by decide) ?_
        intro r25 h24 hQ sz_h24
        obtain ⟨oo, rfl, N_o, X_o, F_o⟩ := hQ
        have E0 := Ext.trans E0 N_o
        show Go p l e _ s m _ below meth c _ _ _ _ _ _ _ _ _ h24 7 65 (mkF m 156 #[.val (.int sel), .val (.int pos), .val (.int ch), .val (.int k1), .val (.int sh2), .val (.ref nn), .val (.int (Int32.ofNat (own_nm k1).length)), .val (.int (Int32.ofNat i)), .val (.int og), .val (.int cc), .val (.ref sr), .val .null, .unset] [(.ref oo)])
        rw [own_f2 ki_0 ki_1 ki_2 ki_3 k1] at F_o
        refine Go.astore K (q := 158) rfl (L' := #[.val (.int sel), .val (.int pos), .val (.int ch), .val (.int k1), .val (.int sh2), .val (.ref nn), .val (.int (Int32.ofNat (own_nm k1).length)), .val (.int (Int32.ofNat i)), .val (.int og), .val (.int cc), .val (.ref sr), .val .null, .val (.ref oo)]) at_156 rfl rfl ?_
        refine Go.aload K (q := 160) rfl at_158 rfl rfl ?_
        refine Go.ifnonnullN K (q := 163) rfl at_160 ?_
        refine Go.aload K (q := 165) rfl at_163 rfl rfl ?_
        refine Go.cV K (q := 168) rfl (y := (⟨"java/util/Optional", "isPresent", "()Z"⟩ : MethodName)) (z := (⟨"java/util/Optional", "isPresent", "()Z"⟩ : MethodName)) (c_oip0 l Z a0 hw xs n0 h24 (Nat.le_trans Z0 E0.1) oo F_o) (hw _ (List.mem_of_getElem? (i := 111) rfl)) (hw _ (List.mem_of_getElem? (i := 112) rfl)) (nfS (hw _ (List.mem_of_getElem? (i := 114) rfl))) (hw _ (List.mem_of_getElem? (i := 114) rfl)) (hw _ (List.mem_of_getElem? (i := 113) rfl)) (hw _ (List.mem_of_getElem? (i := 108) rfl)) (hw _ (List.mem_of_getElem? (i := 115) rfl)) (by decide) (isa_of X_o) pd9 (argsL := []) (rest := []) rfl rfl rfl rfl (W := 0) (Nat.le_of_eq rfl) (by decide) (by decide) at_165 (cells' := 7) (slots' := 65) rfl rfl (by decide) (by decide) ?_
        intro r27 h26 hQ sz_h26
        obtain ⟨rfl, rfl⟩ := hQ
        show Go p l e _ s m _ below meth c _ _ _ _ _ _ _ _ _ h24 7 65 (mkF m 168 #[.val (.int sel), .val (.int pos), .val (.int ch), .val (.int k1), .val (.int sh2), .val (.ref nn), .val (.int (Int32.ofNat (own_nm k1).length)), .val (.int (Int32.ofNat i)), .val (.int og), .val (.int cc), .val (.ref sr), .val .null, .val (.ref oo)] [(.int (0 : Int32))])
        refine Go.ifN K (q := 171) rfl at_168 (show (0 : Int32) = (0 : Int32) from rfl) ?_
        refine Go.iconst K (q := 172) rfl (v := (1 : Int32)) (by decide) at_171 ?_
        refine Go.goto K (q := 176) (by decide) (by decide) at_172 ?_
        exact Go.retN K (by simp) at_176 (by decide) (by decide) (fun _ q => q) (rfl)
    · skip
      refine Go.iloadN K (q := 69) rfl at_68 rfl ?_
      refine Go.iload K (q := 71) rfl at_69 rfl ?_
      refine Go.iload K (q := 73) rfl at_71 rfl ?_
      refine Go.cS K (q := 76) rfl (y := (⟨"com/example/tasklane/tasklane/engine/TaskSortFromIdPinLaw", "replaced", "(IIC)Ljava/lang/String;"⟩ : MethodName)) (c_repl l Z a0 hw xs n0 h3 (Nat.le_trans Z0 E0.1) k1 cc i hi hcc z (Sa.ext E0) hz) (hw _ (List.mem_of_getElem? (i := 48) rfl)) (hw _ (List.mem_of_getElem? (i := 49) rfl)) (hw _ (List.mem_of_getElem? (i := 2) rfl)) (hw _ (List.mem_of_getElem? (i := 50) rfl)) (by decide) pd11 (argsL := [(.int k1), (.int (Int32.ofNat i)), (.int cc)]) (rest := []) rfl rfl rfl rfl (W := 0) (Nat.le_of_eq rfl) (by decide) (by decide) at_73 (cells' := 5) (slots' := 62) rfl rfl (by decide) (by decide) ?_
      intro r29 h28 hQ sz_h28
      obtain ⟨sr, rfl, N_s, S_s⟩ := hQ
      have E0 := Ext.trans E0 N_s
      show Go p l e _ s m _ below meth c _ _ _ _ _ _ _ _ _ h28 5 62 (mkF m 76 #[.val (.int sel), .val (.int pos), .val (.int ch), .val (.int k1), .val (.int sh2), .val (.ref nn), .val (.int (Int32.ofNat (own_nm k1).length)), .val (.int (Int32.ofNat i)), .val (.int og), .val (.int cc), .unset, .unset, .unset] [(.ref sr)])
      refine Go.astore K (q := 78) rfl (L' := #[.val (.int sel), .val (.int pos), .val (.int ch), .val (.int k1), .val (.int sh2), .val (.ref nn), .val (.int (Int32.ofNat (own_nm k1).length)), .val (.int (Int32.ofNat i)), .val (.int og), .val (.int cc), .val (.ref sr), .unset, .unset]) at_76 rfl rfl ?_
      refine Go.iload K (q := 80) rfl at_78 rfl ?_
      refine Go.iload K (q := 82) rfl at_80 rfl ?_
      refine Go.icmp K (q := 92) (q' := 85) (by decide) (by decide) rfl at_82 (fun (hq : ¬ cc = og) => ?_) (fun (hq : cc = og) => ?_)
      · skip
        refine Go.aconstNull K (q := 93) rfl at_92 ?_
        refine Go.astore K (q := 95) rfl (L' := #[.val (.int sel), .val (.int pos), .val (.int ch), .val (.int k1), .val (.int sh2), .val (.ref nn), .val (.int (Int32.ofNat (own_nm k1).length)), .val (.int (Int32.ofNat i)), .val (.int og), .val (.int cc), .val (.ref sr), .val .null, .unset]) at_93 rfl rfl ?_
        refine Go.goto K (q := 151) (by decide) (by decide) at_95 ?_
        refine Go.aload K (q := 153) rfl at_151 rfl rfl ?_
        refine Go.cS K (q := 156) rfl (y := (⟨"com/example/tasklane/tasklane/engine/TaskSort", "fromId", "(Ljava/lang/String;)Ljava/util/Optional;"⟩ : MethodName)) (c_from l Z a0 hw xs n0 h28 (Nat.le_trans Z0 E0.1) sr _ S_s z (Sa.ext E0) hz ki_0 ki_1 ki_2 ki_3 va kv (SV.ext E0) (AV.ext E0) (XV.ext E0) si_0 si_1 si_2 si_3 (I_0.ext E0) (U_0.ext E0) (I_1.ext E0) (U_1.ext E0) (I_2.ext E0) (U_2.ext E0) (I_3.ext E0) (U_3.ext E0) oe (SE.ext E0) (XE.ext E0) (FE.ext E0)) (hw _ (List.mem_of_getElem? (i := 73) rfl)) (hw _ (List.mem_of_getElem? (i := 74) rfl)) (hw _ (List.mem_of_getElem? (i := 75) rfl)) (hw _ (List.mem_of_getElem? (i := 76) rfl)) (by decide) pd8 (argsL := [(.ref sr)]) (rest := []) rfl rfl rfl rfl (W := 0) (Nat.le_of_eq rfl) (by decide) (by decide) at_153 (cells' := 7) (slots' := 67) rfl rfl (by decide) (by decide) ?_
        intro r31 h30 hQ sz_h30
        obtain ⟨oo, rfl, N_o, X_o, F_o⟩ := hQ
        have E0 := Ext.trans E0 N_o
        show Go p l e _ s m _ below meth c _ _ _ _ _ _ _ _ _ h30 7 67 (mkF m 156 #[.val (.int sel), .val (.int pos), .val (.int ch), .val (.int k1), .val (.int sh2), .val (.ref nn), .val (.int (Int32.ofNat (own_nm k1).length)), .val (.int (Int32.ofNat i)), .val (.int og), .val (.int cc), .val (.ref sr), .val .null, .unset] [(.ref oo)])
        rw [own_f0 ki_0 ki_1 ki_2 ki_3 k1 i cc hi (by rw [eo]; exact hq)] at F_o
        refine Go.astore K (q := 158) rfl (L' := #[.val (.int sel), .val (.int pos), .val (.int ch), .val (.int k1), .val (.int sh2), .val (.ref nn), .val (.int (Int32.ofNat (own_nm k1).length)), .val (.int (Int32.ofNat i)), .val (.int og), .val (.int cc), .val (.ref sr), .val .null, .val (.ref oo)]) at_156 rfl rfl ?_
        refine Go.aload K (q := 160) rfl at_158 rfl rfl ?_
        refine Go.ifnonnullN K (q := 163) rfl at_160 ?_
        refine Go.aload K (q := 165) rfl at_163 rfl rfl ?_
        refine Go.cV K (q := 168) rfl (y := (⟨"java/util/Optional", "isPresent", "()Z"⟩ : MethodName)) (z := (⟨"java/util/Optional", "isPresent", "()Z"⟩ : MethodName)) (c_oip0 l Z a0 hw xs n0 h30 (Nat.le_trans Z0 E0.1) oo F_o) (hw _ (List.mem_of_getElem? (i := 111) rfl)) (hw _ (List.mem_of_getElem? (i := 112) rfl)) (nfS (hw _ (List.mem_of_getElem? (i := 114) rfl))) (hw _ (List.mem_of_getElem? (i := 114) rfl)) (hw _ (List.mem_of_getElem? (i := 113) rfl)) (hw _ (List.mem_of_getElem? (i := 108) rfl)) (hw _ (List.mem_of_getElem? (i := 115) rfl)) (by decide) (isa_of X_o) pd9 (argsL := []) (rest := []) rfl rfl rfl rfl (W := 0) (Nat.le_of_eq rfl) (by decide) (by decide) at_165 (cells' := 7) (slots' := 67) rfl rfl (by decide) (by decide) ?_
        intro r33 h32 hQ sz_h32
        obtain ⟨rfl, rfl⟩ := hQ
        show Go p l e _ s m _ below meth c _ _ _ _ _ _ _ _ _ h30 7 67 (mkF m 168 #[.val (.int sel), .val (.int pos), .val (.int ch), .val (.int k1), .val (.int sh2), .val (.ref nn), .val (.int (Int32.ofNat (own_nm k1).length)), .val (.int (Int32.ofNat i)), .val (.int og), .val (.int cc), .val (.ref sr), .val .null, .val (.ref oo)] [(.int (0 : Int32))])
        refine Go.ifN K (q := 171) rfl at_168 (show (0 : Int32) = (0 : Int32) from rfl) ?_
        refine Go.iconst K (q := 172) rfl (v := (1 : Int32)) (by decide) at_171 ?_
        refine Go.goto K (q := 176) (by decide) (by decide) at_172 ?_
        exact Go.retN K (by simp) at_176 (by decide) (by decide) (fun _ q => q) (rfl)
      · skip
        refine Go.iloadN K (q := 86) rfl at_85 rfl ?_
        refine Go.cS K (q := 89) rfl (y := (⟨"com/example/tasklane/tasklane/engine/TaskSortFromIdPinLaw", "sort", "(I)Lcom/example/tasklane/tasklane/engine/TaskSort;"⟩ : MethodName)) (c_sort l Z a0 hw xs n0 h28 (Nat.le_trans Z0 E0.1) k1 ki_0 ki_1 ki_2 ki_3 (T_0.ext E0) (T_1.ext E0) (T_2.ext E0) (T_3.ext E0)) (hw _ (List.mem_of_getElem? (i := 128) rfl)) (hw _ (List.mem_of_getElem? (i := 129) rfl)) (hw _ (List.mem_of_getElem? (i := 2) rfl)) (hw _ (List.mem_of_getElem? (i := 130) rfl)) (by decide) pd12 (argsL := [(.int k1)]) (rest := []) rfl rfl rfl rfl (W := 0) (Nat.le_of_eq rfl) (by decide) (by decide) at_86 (cells' := 5) (slots' := 62) rfl rfl (by decide) (by decide) ?_
        intro r35 h34 hQ sz_h34
        obtain ⟨rfl, rfl⟩ := hQ
        show Go p l e _ s m _ below meth c _ _ _ _ _ _ _ _ _ h28 5 62 (mkF m 89 #[.val (.int sel), .val (.int pos), .val (.int ch), .val (.int k1), .val (.int sh2), .val (.ref nn), .val (.int (Int32.ofNat (own_nm k1).length)), .val (.int (Int32.ofNat i)), .val (.int og), .val (.int cc), .val (.ref sr), .unset, .unset] [(.ref (own_kk ki_0 ki_1 ki_2 ki_3 k1))])
        refine Go.goto K (q := 93) (by decide) (by decide) at_89 ?_
        refine Go.astore K (q := 95) rfl (L' := #[.val (.int sel), .val (.int pos), .val (.int ch), .val (.int k1), .val (.int sh2), .val (.ref nn), .val (.int (Int32.ofNat (own_nm k1).length)), .val (.int (Int32.ofNat i)), .val (.int og), .val (.int cc), .val (.ref sr), .val (.ref (own_kk ki_0 ki_1 ki_2 ki_3 k1)), .unset]) at_93 rfl rfl ?_
        refine Go.goto K (q := 151) (by decide) (by decide) at_95 ?_
        refine Go.aload K (q := 153) rfl at_151 rfl rfl ?_
        refine Go.cS K (q := 156) rfl (y := (⟨"com/example/tasklane/tasklane/engine/TaskSort", "fromId", "(Ljava/lang/String;)Ljava/util/Optional;"⟩ : MethodName)) (c_from l Z a0 hw xs n0 h28 (Nat.le_trans Z0 E0.1) sr _ S_s z (Sa.ext E0) hz ki_0 ki_1 ki_2 ki_3 va kv (SV.ext E0) (AV.ext E0) (XV.ext E0) si_0 si_1 si_2 si_3 (I_0.ext E0) (U_0.ext E0) (I_1.ext E0) (U_1.ext E0) (I_2.ext E0) (U_2.ext E0) (I_3.ext E0) (U_3.ext E0) oe (SE.ext E0) (XE.ext E0) (FE.ext E0)) (hw _ (List.mem_of_getElem? (i := 73) rfl)) (hw _ (List.mem_of_getElem? (i := 74) rfl)) (hw _ (List.mem_of_getElem? (i := 75) rfl)) (hw _ (List.mem_of_getElem? (i := 76) rfl)) (by decide) pd8 (argsL := [(.ref sr)]) (rest := []) rfl rfl rfl rfl (W := 0) (Nat.le_of_eq rfl) (by decide) (by decide) at_153 (cells' := 7) (slots' := 67) rfl rfl (by decide) (by decide) ?_
        intro r37 h36 hQ sz_h36
        obtain ⟨oo, rfl, N_o, X_o, F_o⟩ := hQ
        have E0 := Ext.trans E0 N_o
        show Go p l e _ s m _ below meth c _ _ _ _ _ _ _ _ _ h36 7 67 (mkF m 156 #[.val (.int sel), .val (.int pos), .val (.int ch), .val (.int k1), .val (.int sh2), .val (.ref nn), .val (.int (Int32.ofNat (own_nm k1).length)), .val (.int (Int32.ofNat i)), .val (.int og), .val (.int cc), .val (.ref sr), .val (.ref (own_kk ki_0 ki_1 ki_2 ki_3 k1)), .unset] [(.ref oo)])
        rw [own_f1 ki_0 ki_1 ki_2 ki_3 k1 i cc hi (by rw [eo]; exact hq)] at F_o
        refine Go.astore K (q := 158) rfl (L' := #[.val (.int sel), .val (.int pos), .val (.int ch), .val (.int k1), .val (.int sh2), .val (.ref nn), .val (.int (Int32.ofNat (own_nm k1).length)), .val (.int (Int32.ofNat i)), .val (.int og), .val (.int cc), .val (.ref sr), .val (.ref (own_kk ki_0 ki_1 ki_2 ki_3 k1)), .val (.ref oo)]) at_156 rfl rfl ?_
        refine Go.aload K (q := 160) rfl at_158 rfl rfl ?_
        refine Go.ifnonnullY K (q := 177) (by decide) (by decide) at_160 ?_
        refine Go.aload K (q := 179) rfl at_177 rfl rfl ?_
        refine Go.cV K (q := 182) rfl (y := (⟨"java/util/Optional", "isPresent", "()Z"⟩ : MethodName)) (z := (⟨"java/util/Optional", "isPresent", "()Z"⟩ : MethodName)) (c_oip1 l Z a0 hw xs n0 h36 (Nat.le_trans Z0 E0.1) oo (own_kk ki_0 ki_1 ki_2 ki_3 k1) F_o) (hw _ (List.mem_of_getElem? (i := 111) rfl)) (hw _ (List.mem_of_getElem? (i := 112) rfl)) (nfS (hw _ (List.mem_of_getElem? (i := 114) rfl))) (hw _ (List.mem_of_getElem? (i := 114) rfl)) (hw _ (List.mem_of_getElem? (i := 113) rfl)) (hw _ (List.mem_of_getElem? (i := 108) rfl)) (hw _ (List.mem_of_getElem? (i := 115) rfl)) (by decide) (isa_of X_o) pd9 (argsL := []) (rest := []) rfl rfl rfl rfl (W := 0) (Nat.le_of_eq rfl) (by decide) (by decide) at_179 (cells' := 7) (slots' := 67) rfl rfl (by decide) (by decide) ?_
        intro r39 h38 hQ sz_h38
        obtain ⟨rfl, rfl⟩ := hQ
        show Go p l e _ s m _ below meth c _ _ _ _ _ _ _ _ _ h36 7 67 (mkF m 182 #[.val (.int sel), .val (.int pos), .val (.int ch), .val (.int k1), .val (.int sh2), .val (.ref nn), .val (.int (Int32.ofNat (own_nm k1).length)), .val (.int (Int32.ofNat i)), .val (.int og), .val (.int cc), .val (.ref sr), .val (.ref (own_kk ki_0 ki_1 ki_2 ki_3 k1)), .val (.ref oo)] [(.int (1 : Int32))])
        refine Go.ifN K (q := 185) rfl at_182 (show ¬ (1 : Int32) = (0 : Int32) from (by decide)) ?_
        refine Go.aload K (q := 187) rfl at_185 rfl rfl ?_
        refine Go.cV K (q := 190) rfl (y := (⟨"java/util/Optional", "get", "()Ljava/lang/Object;"⟩ : MethodName)) (z := (⟨"java/util/Optional", "get", "()Ljava/lang/Object;"⟩ : MethodName)) (c_og l Z a0 hw xs n0 h36 (Nat.le_trans Z0 E0.1) oo (own_kk ki_0 ki_1 ki_2 ki_3 k1) F_o) (hw _ (List.mem_of_getElem? (i := 147) rfl)) (hw _ (List.mem_of_getElem? (i := 148) rfl)) (nfS (hw _ (List.mem_of_getElem? (i := 150) rfl))) (hw _ (List.mem_of_getElem? (i := 150) rfl)) (hw _ (List.mem_of_getElem? (i := 149) rfl)) (hw _ (List.mem_of_getElem? (i := 108) rfl)) (hw _ (List.mem_of_getElem? (i := 151) rfl)) (by decide) (isa_of X_o) pd13 (argsL := []) (rest := []) rfl rfl rfl rfl (W := 0) (Nat.le_of_eq rfl) (by decide) (by decide) at_187 (cells' := 7) (slots' := 67) rfl rfl (by decide) (by decide) ?_
        intro r41 h40 hQ sz_h40
        obtain ⟨rfl, rfl⟩ := hQ
        show Go p l e _ s m _ below meth c _ _ _ _ _ _ _ _ _ h36 7 67 (mkF m 190 #[.val (.int sel), .val (.int pos), .val (.int ch), .val (.int k1), .val (.int sh2), .val (.ref nn), .val (.int (Int32.ofNat (own_nm k1).length)), .val (.int (Int32.ofNat i)), .val (.int og), .val (.int cc), .val (.ref sr), .val (.ref (own_kk ki_0 ki_1 ki_2 ki_3 k1)), .val (.ref oo)] [(.ref (own_kk ki_0 ki_1 ki_2 ki_3 k1))])
        refine Go.aload K (q := 192) rfl at_190 rfl rfl ?_
        refine Go.acmp K (q := 195) rfl rfl (same := true) (decide_eq_true rfl) (by decide) (by decide) at_192 ?_
        refine Go.iconst K (q := 196) rfl (v := (1 : Int32)) (by decide) at_195 ?_
        refine Go.goto K (q := 200) (by decide) (by decide) at_196 ?_
        exact Go.retN K (by simp) at_200 (by decide) (by decide) (fun _ q => q) (rfl)
  refine Go.ifc K (q := 55) (q' := 50) (by decide) (by decide) rfl at_47 (fun (hb : (ch &&& (256 : Int32)) = (0 : Int32)) => ?_) (fun (hb : ¬ (ch &&& (256 : Int32)) = (0 : Int32)) => ?_)
  · skip
    refine Go.iloadN K (q := 56) rfl at_55 rfl ?_
    refine Go.sipush K (q := 59) rfl (v := (255 : Int32)) (by decide) at_56 ?_
    refine Go.iand K (q := 60) rfl at_59 ?_
    refine Go.i2c K (q := 61) rfl at_60 ?_
    exact key _ (own_c8 _)
  · skip
    refine Go.iload K (q := 52) rfl at_50 rfl ?_
    refine Go.goto K (q := 61) (by decide) (by decide) at_52 ?_
    exact key _ hog
set_option maxRecDepth 65536 in
set_option maxHeartbeats 40000000 in
theorem comes_1 {Post : Tables → Env → Array Value → State → Outcome → State → Prop} (hpost : ∀ tb e args s v u, (limb_1_1.after args s (.returned v) u = true ∧ limb_1_2.after args s (.returned v) u = true ∧ True) → ReturnedEndW s (.returned v) u (Jvm.fieldLocs frame_1_writes args s ++ Jvm.arrayLocs frame_1_arrays args s ++ Jvm.staticLocs frame_1_statics s) 32 5312 → Post tb e args s (.returned v) u) :
    ArmFor flags0 classFile x code maxLocals ret World_1 tables_1 room_1 Calls_1 rest_1 Pre_1 Post := by
  intro l hfl _ _ p e ha hc hk s m args below hf hA hF happ hP
  obtain ⟨hcalls, hrest, hpre⟩ := hP
  obtain ⟨-, -, -, hnamed, -, -, -, hat⟩ := (Spec.applies_iff hf).mp happ
  obtain ⟨hg, hn⟩ := and_e (Cond.before_iff.mp (show (Jvm.Cond.and given_1 narrow_1).before args s = true from hpre))
  obtain ⟨h1, k0⟩ := and_e hg
  obtain ⟨g0, k1⟩ := and_e k0
  obtain ⟨g1, k2⟩ := and_e k1
  obtain ⟨w0, w1, w2, rfl⟩ : ∃ w0 w1 w2 : Value, args = #[w0, w1, w2] := by
    have hs : args.size = 3 := by simpa [Cond.value, given_1] using h1
    obtain ⟨L⟩ := args
    match L, hs with
    | [w0, w1, w2], _ => exact ⟨w0, w1, w2, rfl⟩
  have hw := fun d (hd : d ∈ tables_1) => atoms_spec (ws := Jvm.Cond.code x code maxLocals ret :: tables_1) hat d (List.mem_cons_of_mem _ hd)
  obtain ⟨hsets, hown0⟩ := atoms_of _ (rest_1_c_eq ▸ (show rest_1_c.before _ s = true from hrest))
  have hfit : Fit s := fun {y c} hc i hi => by
    obtain ⟨ha, rfl⟩ := Array.getElem?_eq_some_iff.mp hc
    have q := List.all_eq_true.mp ((Array.all_eq_true_iff_forall_mem.mp hF) _ (Array.getElem_mem ha)) i (List.mem_range.mpr hi)
    simpa [Array.getElem?_eq_getElem hi] using q
  obtain ⟨i0, q0⟩ := is_v g0
  obtain rfl : w0 = (.int i0) := Option.some.inj q0
  obtain ⟨i1, q1⟩ := is_v g1
  obtain rfl : w1 = (.int i1) := Option.some.inj q1
  obtain ⟨i2, q2⟩ := is_v k2
  obtain rfl : w2 = (.int i2) := Option.some.inj q2
  have n5 := not_v (Cond.before_iff.mp (hsets _ (List.mem_of_getElem? (i := 2) rfl)))
  obtain ⟨zs, ez⟩ := is_v (Cond.before_iff.mp (hsets _ (List.mem_of_getElem? (i := 1) rfl)))
  have Sa : Sta s s.heap "java/lang/String" "COMPACT_STRINGS" "Z" (.int zs) := Sta.start ez (Or.inl (hsets _ (List.mem_of_getElem? (i := 0) rfl)))
  have hz : ¬ (zs = (0 : Int32)) := gotF (Cond.eq_ints ez (Term.int_eval (0))) n5
  obtain ⟨n0_, hn⟩ := and_e hn
  obtain ⟨n1_, hn⟩ := and_e hn
  obtain ⟨n2_, hn⟩ := and_e hn
  obtain ⟨n3_, hn⟩ := and_e hn
  obtain ⟨n4_, hn⟩ := and_e hn
  obtain ⟨n5_, hn⟩ := and_e hn
  obtain ⟨n6_, hn⟩ := and_e hn
  obtain ⟨n7_, hn⟩ := and_e hn
  obtain ⟨n8_, hn⟩ := and_e hn
  obtain ⟨n9_, hn⟩ := and_e hn
  obtain ⟨n10_, hn⟩ := and_e hn
  obtain ⟨n11_, hn⟩ := and_e hn
  obtain ⟨n12_, hn⟩ := and_e hn
  obtain ⟨n13_, hn⟩ := and_e hn
  obtain ⟨n14_, hn⟩ := and_e hn
  obtain ⟨n15_, hn⟩ := and_e hn
  obtain ⟨n16_, hn⟩ := and_e hn
  obtain ⟨n17_, hn⟩ := and_e hn
  obtain ⟨n18_, hn⟩ := and_e hn
  obtain ⟨n19_, hn⟩ := and_e hn
  obtain ⟨n20_, hn⟩ := and_e hn
  obtain ⟨n21_, hn⟩ := and_e hn
  obtain ⟨n22_, hn⟩ := and_e hn
  obtain ⟨n23_, hn⟩ := and_e hn
  obtain ⟨n24_, hn⟩ := and_e hn
  obtain ⟨n25_, hn⟩ := and_e hn
  obtain ⟨n26_, hn⟩ := and_e hn
  obtain ⟨n27_, hn⟩ := and_e hn
  obtain ⟨n28_, hn⟩ := and_e hn
  obtain ⟨n29_, hn⟩ := and_e hn
  obtain ⟨n30_, hn⟩ := and_e hn
  obtain ⟨n31_, hn⟩ := and_e hn
  obtain ⟨n32_, hn⟩ := and_e hn
  obtain ⟨n33_, hn⟩ := and_e hn
  obtain ⟨n34_, hn⟩ := and_e hn
  obtain ⟨n35_, hn⟩ := and_e hn
  obtain ⟨n36_, hn⟩ := and_e hn
  obtain ⟨n37_, hn⟩ := and_e hn
  obtain ⟨n38_, hn⟩ := and_e hn
  obtain ⟨n39_, hn⟩ := and_e hn
  obtain ⟨n40_, hn⟩ := and_e hn
  obtain ⟨n41_, hn⟩ := and_e hn
  obtain ⟨n42_, hn⟩ := and_e hn
  obtain ⟨n43_, hn⟩ := and_e hn
  obtain ⟨n44_, hn⟩ := and_e hn
  obtain ⟨n45_, hn⟩ := and_e hn
  obtain ⟨n46_, hn⟩ := and_e hn
  obtain ⟨n47_, hn⟩ := and_e hn
  obtain ⟨n48_, hn⟩ := and_e hn
  obtain ⟨n49_, hn⟩ := and_e hn
  obtain ⟨n50_, hn⟩ := and_e hn
  obtain ⟨n51_, hn⟩ := and_e hn
  obtain ⟨n52_, hn⟩ := and_e hn
  obtain ⟨n53_, hn⟩ := and_e hn
  have n54_ := hn
  obtain ⟨ki_0, ek_0⟩ := exa_v n3_
  obtain ⟨ki_1, ek_1⟩ := exa_v n4_
  obtain ⟨ki_2, ek_2⟩ := exa_v n5_
  obtain ⟨ki_3, ek_3⟩ := exa_v n6_
  obtain ⟨va, eva⟩ := exa_v n1_
  have SV : Sta s s.heap "com/example/tasklane/tasklane/engine/TaskSort" "$VALUES" "[Lcom/example/tasklane/tasklane/engine/TaskSort;" (.ref va) := Sta.start eva (Or.inl (hw _ (List.mem_of_getElem? (i := 89) rfl)))
  have XV := Exa.start eva n1_
  obtain ⟨kv, AV⟩ := arv_start (z := (4 : Int32)) (vs := [.ref ki_0, .ref ki_1, .ref ki_2, .ref ki_3]) (dv := .null) hfit eva n0_ (Cond.eq_int (Cond.before_iff.mpr n2_) rfl) (by decide) rfl (fun i h => by
    match i, h with
    | 0, _ => exact ek_0
    | 1, _ => exact ek_1
    | 2, _ => exact ek_2
    | 3, _ => exact ek_3
    | n + 4, h => exact absurd (show n + 4 < 4 from h) (by omega))
  obtain ⟨si_0, es_0⟩ := exa_v n7_
  have I_0 : Fld s s.heap ki_0 "com/example/tasklane/tasklane/engine/TaskSort" "id" "Ljava/lang/String;" (.ref si_0) := Fld.start ((fld_at ek_0).symm.trans es_0)
  have U_0 : Str s s.heap si_0 (own_nm 0) := by
    rw [own_n0]
    exact str_start hfit es_0 n7_ n8_ n9_ n10_ (fun i h => by
      match i, h with
      | 0, _ => exact n31_
      | 1, _ => exact n32_
      | 2, _ => exact n33_
      | 3, _ => exact n34_
      | 4, _ => exact n35_
      | 5, _ => exact n36_
      | 6, _ => exact n37_
      | 7, _ => exact n38_
      | 8, _ => exact n39_
      | n + 9, h => exact absurd (show n + 9 < 9 from h) (by omega)) (by decide) (by decide)
  have T_0 : Sta s s.heap "com/example/tasklane/tasklane/engine/TaskSort" "CREATED_AT" "Lcom/example/tasklane/tasklane/engine/TaskSort;" (.ref ki_0) := Sta.start (Cond.eq_refs (Cond.before_iff.mpr n30_) ek_0 rfl) (Or.inr ⟨(hw _ (List.mem_of_getElem? (i := 75) rfl)), (hw _ (List.mem_of_getElem? (i := 157) rfl))⟩)
  obtain ⟨si_1, es_1⟩ := exa_v n11_
  have I_1 : Fld s s.heap ki_1 "com/example/tasklane/tasklane/engine/TaskSort" "id" "Ljava/lang/String;" (.ref si_1) := Fld.start ((fld_at ek_1).symm.trans es_1)
  have U_1 : Str s s.heap si_1 (own_nm 1) := by
    rw [own_n1]
    exact str_start hfit es_1 n11_ n12_ n13_ n14_ (fun i h => by
      match i, h with
      | 0, _ => exact n40_
      | 1, _ => exact n41_
      | 2, _ => exact n42_
      | 3, _ => exact n43_
      | 4, _ => exact n44_
      | 5, _ => exact n45_
      | 6, _ => exact n46_
      | 7, _ => exact n47_
      | n + 8, h => exact absurd (show n + 8 < 8 from h) (by omega)) (by decide) (by decide)
  have T_1 : Sta s s.heap "com/example/tasklane/tasklane/engine/TaskSort" "PRIORITY" "Lcom/example/tasklane/tasklane/engine/TaskSort;" (.ref ki_1) := Sta.start (Cond.eq_refs (Cond.before_iff.mpr n29_) ek_1 rfl) (Or.inr ⟨(hw _ (List.mem_of_getElem? (i := 75) rfl)), (hw _ (List.mem_of_getElem? (i := 155) rfl))⟩)
  obtain ⟨si_2, es_2⟩ := exa_v n15_
  have I_2 : Fld s s.heap ki_2 "com/example/tasklane/tasklane/engine/TaskSort" "id" "Ljava/lang/String;" (.ref si_2) := Fld.start ((fld_at ek_2).symm.trans es_2)
  have U_2 : Str s s.heap si_2 (own_nm 2) := by
    rw [own_n2]
    exact str_start hfit es_2 n15_ n16_ n17_ n18_ (fun i h => by
      match i, h with
      | 0, _ => exact n48_
      | 1, _ => exact n49_
      | 2, _ => exact n50_
      | 3, _ => exact n51_
      | 4, _ => exact n52_
      | 5, _ => exact n53_
      | 6, _ => exact n54_
      | n + 7, h => exact absurd (show n + 7 < 7 from h) (by omega)) (by decide) (by decide)
  have T_2 : Sta s s.heap "com/example/tasklane/tasklane/engine/TaskSort" "DUE_DATE" "Lcom/example/tasklane/tasklane/engine/TaskSort;" (.ref ki_2) := Sta.start (Cond.eq_refs (Cond.before_iff.mpr n23_) ek_2 rfl) (Or.inr ⟨(hw _ (List.mem_of_getElem? (i := 75) rfl)), (hw _ (List.mem_of_getElem? (i := 132) rfl))⟩)
  obtain ⟨si_3, es_3⟩ := exa_v n19_
  have I_3 : Fld s s.heap ki_3 "com/example/tasklane/tasklane/engine/TaskSort" "id" "Ljava/lang/String;" (.ref si_3) := Fld.start ((fld_at ek_3).symm.trans es_3)
  have U_3 : Str s s.heap si_3 (own_nm 3) := by
    rw [own_n3]
    exact str_start hfit es_3 n19_ n20_ n21_ n22_ (fun i h => by
      match i, h with
      | 0, _ => exact n24_
      | 1, _ => exact n25_
      | 2, _ => exact n26_
      | 3, _ => exact n27_
      | n + 4, h => exact absurd (show n + 4 < 4 from h) (by omega)) (by decide) (by decide)
  have T_3 : Sta s s.heap "com/example/tasklane/tasklane/engine/TaskSort" "NAME" "Lcom/example/tasklane/tasklane/engine/TaskSort;" (.ref ki_3) := Sta.start (Cond.eq_refs (Cond.before_iff.mpr n28_) ek_3 rfl) (Or.inr ⟨(hw _ (List.mem_of_getElem? (i := 75) rfl)), (hw _ (List.mem_of_getElem? (i := 153) rfl))⟩)
  obtain ⟨oe, eoe⟩ := exa_v (Cond.before_iff.mp (hsets _ (List.mem_of_getElem? (i := 11) rfl)))
  have SE : Sta s s.heap "java/util/Optional" "EMPTY" "Ljava/util/Optional;" (.ref oe) := Sta.start eoe (Or.inl (hsets _ (List.mem_of_getElem? (i := 10) rfl)))
  have XE := Exa.start eoe (Cond.before_iff.mp (hsets _ (List.mem_of_getElem? (i := 11) rfl)))
  have FE : Fld s s.heap oe "java/util/Optional" "value" "Ljava/lang/Object;" .null := Fld.start ((fld_at eoe).symm.trans (null_v (Cond.before_iff.mp (hsets _ (List.mem_of_getElem? (i := 12) rfl)))))
  obtain ⟨fm, efm, rf⟩ := isR_v (Cond.before_iff.mp (hsets _ (List.mem_of_getElem? (i := 8) rfl)))
  have Sf : Sta s s.heap "jdk/internal/util/Preconditions" "SIOOBE_FORMATTER" "Ljava/util/function/BiFunction;" fm := Sta.start efm (Or.inl (hsets _ (List.mem_of_getElem? (i := 7) rfl)))
  have wa : (Jvm.Cond.arrayClass .byte).before _ s = true := hw _ (by decide +kernel)
  have wi : (Jvm.Cond.instantiable "java/lang/String" 4).before _ s = true := hw _ (by decide +kernel)
  have HL : Lits s consts_1 [] s.vm s.heap := Lits.start (a0 := _) (fun q hq => hcalls.1 q hq) (fun q hq => by
    simp only [consts_1, List.mem_cons, List.not_mem_nil, or_false] at hq
    rcases hq with rfl | rfl | rfl | rfl | rfl
    · exact ⟨"createdAt", (hw _ (List.mem_of_getElem? (i := 4) rfl)), by decide⟩
    · exact ⟨"priority", (hw _ (List.mem_of_getElem? (i := 118) rfl)), by decide⟩
    · exact ⟨"dueDate", (hw _ (List.mem_of_getElem? (i := 127) rfl)), by decide⟩
    · exact ⟨"name", (hw _ (List.mem_of_getElem? (i := 122) rfl)), by decide⟩
    · exact ⟨"", (hw _ (List.mem_of_getElem? (i := 123) rfl)), by decide⟩) (hsets _ (List.mem_of_getElem? (i := 2) rfl)) wa wi
  obtain ⟨n, o, h1, h2, h3, _, L, rfl, ⟨rfl, -, N⟩, hq⟩ := rm0 l s _ hw tables_1 [] s.heap.size s.heap (Nat.le_refl _) i0 i1 i2 zs Sa hz fm rf Sf ki_0 ki_1 ki_2 ki_3 va kv SV AV XV si_0 si_1 si_2 si_3 I_0 U_0 I_1 U_1 I_2 U_2 I_3 U_3 oe SE XE FE T_0 T_1 T_2 T_3 p e ha hc hk s m _ below hf ((Spec.applies_iff_loose hf).mp happ).1 ⟨rfl, State.Warmed39.refl s, rfl, HL⟩ trivial
  refine ⟨n, _, h1, h2, h3, hpost _ _ _ _ _ _ ⟨Cond.after_iff.mpr rfl, Cond.after_iff.mpr (eq_i res_at (Term.int_eval (1)) rfl), trivial⟩ ⟨hq.1, hq.2.1, hq.2.2.1, (hq.2.2.2.sift fun y hy => Or.inr (N y hy)).mono (by decide) (by decide)⟩⟩
theorem main_1_1 : Claimed_1_1 := comes_1 fun _ _ _ _ _ _ h hF => ⟨h.1, hF⟩
theorem main_1_2 : Claimed_1_2 := comes_1 fun _ _ _ _ _ _ h hF => ⟨h.2.1, hF⟩
end Jvm.Pilot.@@N@@
namespace Jvm.Pilot.@@N@@
open Jvm Jvm.ClassFile Sem Op Lib Jvm.Free Jvm.Stand Jvm.Pilot.@@N@@.Jvm.D
/-! MADE BY PROGRAM (witnessworld.py) out of the Statement's table words and the real class files: 28 classes; the members and pool entries that the words name. The judged class is class 1, her method 1. -/
namespace start1
open Jvm.ClassFile
def u (s : String) : CpInfo := .utf8 (stringToUtf16 s)
/-- a pool by its gaps: so many unusable entries, then the entry; so many at the end -/
def gap : Nat → List CpInfo → List CpInfo
  | 0, r => r
  | n + 1, r => .unusable :: gap n r
def poolList (es : List (Nat × CpInfo)) (last : Nat) : List CpInfo := es.foldr (fun e r => gap e.1 (e.2 :: r)) (gap last [])
def pool (es : List (Nat × CpInfo)) (last : Nat) : Array CpInfo := ⟨poolList es last⟩
def fileOf (pool : Array CpInfo) (this : Nat) (attrs : Array Attribute := #[]) (ms : Array MethodInfo := #[]) (fl : Nat := 33) (sup : Nat := 0) (ifs : Array Nat := #[]) (fds : Array FieldInfo := #[]) : ClassFile where
  minorVersion := 0
  majorVersion := 65
  constantPool := pool
  accessFlags := fl
  thisClass := this
  superClass := sup
  interfaces := ifs
  fields := fds
  methods := ms
  attributes := attrs
def plain (name : String) (sup : Option ClassId) : Class where
  name := name
  kind := .ordinary
  loader := none
  accessFlags := 33
  super := sup
  interfaces := #[]
  cf := none
  fields := #[]
  methods := #[]
  instanceTypes := #[]
  staticTypes := #[]
  resolved := #[]
  callSites := []
  init := .initialized
  statics := none
  mirror := none

def pool0 : Array CpInfo := pool [(5, u "<init>"), (0, u "()V"), (1, .class_ 10), (1, u "java/lang/Object"), (85, u "clone"), (0, u "()Ljava/lang/Object;")] 26

def k0c0 : Code := { maxStack := 0, maxLocals := 1, code := object_method_1_code, exceptionTable := #[], attributes := #[] }
def k0m0 : Method := { name := "<init>", desc := "()V", sig := { parameters := [], returnType := none }, accessFlags := 1, code := some k0c0 }
def k0m1 : Method := { name := "clone", desc := "()Ljava/lang/Object;", sig := { parameters := [], returnType := some (.object "java/lang/Object") }, accessFlags := 260, code := none }
/-- java/lang/Object -/
def k0 : Class := { plain "java/lang/Object" none with
  accessFlags := 33
  interfaces := #[]
  cf := some (fileOf pool0 8 #[] #[{ accessFlags := 1, nameIndex := 5, descriptorIndex := 6, attributes := #[] }, { accessFlags := 260, nameIndex := 96, descriptorIndex := 97, attributes := #[] }] 33 0 #[] #[])
  fields := #[]
  methods := #[k0m0, k0m1]
  instanceTypes := #[]
  staticTypes := #[]
  resolved := Array.replicate 124 none
  statics := none }

def pool1 : Array CpInfo := pool [(2, .class_ 4), (1, u "java/lang/Object"), (0, u "<init>"), (0, u "()V"), (0, .methodref 8 9), (0, .class_ 10), (0, .nameAndType 11 12), (0, u "com/example/tasklane/tasklane/engine/TaskSortFromIdPinLaw"), (0, u "name"), (0, u "(I)Ljava/lang/String;"), (0, .methodref 14 15), (0, .class_ 16), (0, .nameAndType 17 18), (0, u "java/lang/String"), (0, u "length"), (0, u "()I"), (0, .integer 2147483647), (0, .methodref 14 21), (0, .nameAndType 22 23), (0, u "charAt"), (0, u "(I)C"), (0, .methodref 8 25), (0, .nameAndType 26 27), (0, u "replaced"), (0, u "(IIC)Ljava/lang/String;"), (0, .methodref 8 29), (0, .nameAndType 30 31), (0, u "sort"), (0, u "(I)Lcom/example/tasklane/tasklane/engine/TaskSort;"), (0, .methodref 8 33), (0, .nameAndType 34 12), (0, u "truncated"), (0, .methodref 8 36), (0, .nameAndType 37 38), (0, u "extended"), (0, u "(IC)Ljava/lang/String;"), (0, .methodref 14 40), (0, .nameAndType 5 41), (0, u "([C)V"), (0, .methodref 43 44), (0, .class_ 45), (0, .nameAndType 46 47), (0, u "com/example/tasklane/tasklane/engine/TaskSort"), (0, u "fromId"), (0, u "(Ljava/lang/String;)Ljava/util/Optional;"), (0, .methodref 49 50), (0, .class_ 51), (0, .nameAndType 52 53), (0, u "java/util/Optional"), (0, u "isPresent"), (0, u "()Z"), (0, .methodref 49 55), (0, .nameAndType 56 57), (0, u "get"), (0, u "()Ljava/lang/Object;"), (0, .string 59), (0, u "createdAt"), (0, .string 61), (0, u "priority"), (0, .string 63), (0, u "dueDate"), (0, .string 11), (0, .fieldref 43 66), (0, .nameAndType 67 68), (0, u "CREATED_AT"), (0, u "Lcom/example/tasklane/tasklane/engine/TaskSort;"), (0, .fieldref 43 70), (0, .nameAndType 71 68), (0, u "PRIORITY"), (0, .fieldref 43 73), (0, .nameAndType 74 68), (0, u "DUE_DATE"), (0, .fieldref 43 76), (0, .nameAndType 77 68), (0, u "NAME"), (2, u "law"), (0, u "(III)Z")] 3

def k1m0 : Method := { name := "<init>", desc := "()V", sig := { parameters := [], returnType := none }, accessFlags := 1, code := none }
def k1c1 : Code := { maxStack := 3, maxLocals := 13, code := code, exceptionTable := #[], attributes := #[] }
def k1m1 : Method := { name := "law", desc := "(III)Z", sig := { parameters := [.int, .int, .int], returnType := some .boolean }, accessFlags := 9, code := some k1c1 }
def k1c2 : Code := { maxStack := 2, maxLocals := 1, code := method_3_code, exceptionTable := #[], attributes := #[] }
def k1m2 : Method := { name := "name", desc := "(I)Ljava/lang/String;", sig := { parameters := [.int], returnType := some (.object "java/lang/String") }, accessFlags := 10, code := some k1c2 }
def k1c3 : Code := { maxStack := 2, maxLocals := 1, code := method_4_code, exceptionTable := #[], attributes := #[] }
def k1m3 : Method := { name := "sort", desc := "(I)Lcom/example/tasklane/tasklane/engine/TaskSort;", sig := { parameters := [.int], returnType := some (.object "com/example/tasklane/tasklane/engine/TaskSort") }, accessFlags := 10, code := some k1c3 }
def k1c4 : Code := { maxStack := 4, maxLocals := 4, code := method_5_code, exceptionTable := #[], attributes := #[] }
def k1m4 : Method := { name := "replaced", desc := "(IIC)Ljava/lang/String;", sig := { parameters := [.int, .int, .char], returnType := some (.object "java/lang/String") }, accessFlags := 10, code := some k1c4 }
def k1c5 : Code := { maxStack := 4, maxLocals := 2, code := method_6_code, exceptionTable := #[], attributes := #[] }
def k1m5 : Method := { name := "truncated", desc := "(I)Ljava/lang/String;", sig := { parameters := [.int], returnType := some (.object "java/lang/String") }, accessFlags := 10, code := some k1c5 }
def k1c6 : Code := { maxStack := 4, maxLocals := 3, code := method_7_code, exceptionTable := #[], attributes := #[] }
def k1m6 : Method := { name := "extended", desc := "(IC)Ljava/lang/String;", sig := { parameters := [.int, .char], returnType := some (.object "java/lang/String") }, accessFlags := 10, code := some k1c6 }
/-- com/example/tasklane/tasklane/engine/TaskSortFromIdPinLaw -/
def k1 : Class := { plain "com/example/tasklane/tasklane/engine/TaskSortFromIdPinLaw" (some 0) with
  accessFlags := 49
  interfaces := #[]
  cf := some (fileOf pool1 8 #[] #[{ accessFlags := 1, nameIndex := 5, descriptorIndex := 6, attributes := #[] }, { accessFlags := 9, nameIndex := 80, descriptorIndex := 81, attributes := #[] }, { accessFlags := 10, nameIndex := 11, descriptorIndex := 12, attributes := #[] }, { accessFlags := 10, nameIndex := 30, descriptorIndex := 31, attributes := #[] }, { accessFlags := 10, nameIndex := 26, descriptorIndex := 27, attributes := #[] }, { accessFlags := 10, nameIndex := 34, descriptorIndex := 12, attributes := #[] }, { accessFlags := 10, nameIndex := 37, descriptorIndex := 38, attributes := #[] }] 49 2 #[] #[])
  fields := #[]
  methods := #[k1m0, k1m1, k1m2, k1m3, k1m4, k1m5, k1m6]
  instanceTypes := #[]
  staticTypes := #[]
  resolved := Array.replicate 85 none
  statics := none }

def pool2 : Array CpInfo := pool [(1, .class_ 2), (0, u "java/io/Serializable"), (0, .class_ 4), (0, u "java/lang/Object")] 2

/-- java/io/Serializable -/
def k2 : Class := { plain "java/io/Serializable" (some 0) with
  accessFlags := 1537
  interfaces := #[]
  cf := some (fileOf pool2 1 #[] #[] 1537 3 #[] #[])
  fields := #[]
  methods := #[]
  instanceTypes := #[]
  staticTypes := #[]
  resolved := Array.replicate 7 none
  statics := none }

def pool3 : Array CpInfo := pool [(1, .class_ 2), (0, u "java/lang/Comparable"), (0, .class_ 4), (0, u "java/lang/Object")] 7

/-- java/lang/Comparable -/
def k3 : Class := { plain "java/lang/Comparable" (some 0) with
  accessFlags := 1537
  interfaces := #[]
  cf := some (fileOf pool3 1 #[] #[] 1537 3 #[] #[])
  fields := #[]
  methods := #[]
  instanceTypes := #[]
  staticTypes := #[]
  resolved := Array.replicate 12 none
  statics := none }

def pool4 : Array CpInfo := pool [(2, .class_ 4), (1, u "java/lang/CharSequence"), (42, .class_ 48), (0, u "java/lang/CharSequence$1CodePointIterator"), (10, .class_ 60), (0, u "java/lang/CharSequence$1CharIterator"), (5, .class_ 67), (0, u "java/lang/Object")] 63

/-- java/lang/CharSequence -/
def k4 : Class := { plain "java/lang/CharSequence" (some 0) with
  accessFlags := 1537
  interfaces := #[]
  cf := some (fileOf pool4 2 #[.nestMembers #[47, 59]] #[] 1537 66 #[] #[])
  fields := #[]
  methods := #[]
  instanceTypes := #[]
  staticTypes := #[]
  resolved := Array.replicate 131 none
  statics := none }

def pool5 : Array CpInfo := pool [(1, .class_ 2), (0, u "java/lang/constant/Constable"), (0, .class_ 4), (0, u "java/lang/Object")] 6

/-- java/lang/constant/Constable -/
def k5 : Class := { plain "java/lang/constant/Constable" (some 0) with
  accessFlags := 1537
  interfaces := #[]
  cf := some (fileOf pool5 1 #[] #[] 1537 3 #[] #[])
  fields := #[]
  methods := #[]
  instanceTypes := #[]
  staticTypes := #[]
  resolved := Array.replicate 11 none
  statics := none }

def pool6 : Array CpInfo := pool [(1, .class_ 2), (0, u "java/lang/constant/ConstantDesc"), (0, .class_ 4), (0, u "java/lang/Object")] 32

/-- java/lang/constant/ConstantDesc -/
def k6 : Class := { plain "java/lang/constant/ConstantDesc" (some 0) with
  accessFlags := 1537
  interfaces := #[]
  cf := some (fileOf pool6 1 #[] #[] 1537 3 #[] #[])
  fields := #[]
  methods := #[]
  instanceTypes := #[]
  staticTypes := #[]
  resolved := Array.replicate 37 none
  statics := none }

def pool7 : Array CpInfo := pool [(1, .methodref 2 3), (0, .class_ 4), (0, .nameAndType 5 6), (0, u "java/lang/Object"), (0, u "<init>"), (0, u "()V"), (0, .string 8), (0, u ""), (0, .fieldref 10 11), (0, .class_ 12), (0, .nameAndType 13 14), (0, u "java/lang/String"), (0, u "value"), (0, u "[B"), (0, .fieldref 10 16), (0, .nameAndType 17 18), (0, u "coder"), (0, u "B"), (2, u "hash"), (0, u "I"), (2, u "hashIsZero"), (0, u "Z"), (0, .methodref 10 28), (0, .nameAndType 5 29), (0, u "([CIILjava/lang/Void;)V"), (8, .fieldref 10 39), (0, .nameAndType 40 26), (0, u "COMPACT_STRINGS"), (1, .class_ 44), (1, u "java/lang/StringUTF16"), (0, u "compress"), (1, .methodref 42 48), (0, .nameAndType 49 50), (0, u "coderFromArrayLen"), (0, u "([BI)B"), (56, .class_ 109), (1, u "java/lang/StringLatin1"), (32, u "()Z"), (34, .methodref 42 178), (0, .nameAndType 45 179), (0, u "([CII)[B"), (154, u "()I"), (0, .methodref 10 336), (0, .nameAndType 17 337), (0, u "()B"), (25, u "([BI)C"), (27, u "(II)V"), (35, u "(I)C"), (64, .methodref 10 493), (0, .nameAndType 494 142), (0, u "isLatin1"), (0, .methodref 107 496), (0, .nameAndType 497 363), (0, u "charAt"), (3, u "checkIndex"), (5, u "length"), (33, .methodref 107 542), (0, .nameAndType 543 544), (0, u "equals"), (0, u "([B[B)Z"), (28, u "(Ljava/lang/Object;)Z"), (1, .class_ 576), (0, u "java/lang/CharSequence"), (22, u "CASE_INSENSITIVE_ORDER"), (0, u "Ljava/util/Comparator;"), (409, u "([C)V"), (42, .fieldref 1054 1055), (0, .class_ 1056), (0, .nameAndType 1057 1058), (0, u "jdk/internal/util/Preconditions"), (0, u "SIOOBE_FORMATTER"), (0, u "Ljava/util/function/BiFunction;"), (0, .methodref 1054 1060), (0, .nameAndType 501 1061), (0, u "(IILjava/util/function/BiFunction;)I"), (39, u "serialPersistentFields"), (0, u "[Ljava/io/ObjectStreamField;"), (0, .class_ 1104), (0, u "java/lang/String$CaseInsensitiveComparator"), (1, .class_ 1107), (0, u "java/io/Serializable"), (0, .class_ 1109), (0, u "java/lang/Comparable"), (0, .class_ 1111), (0, u "java/lang/constant/Constable"), (0, .class_ 1113), (0, u "java/lang/constant/ConstantDesc"), (2, u "serialVersionUID"), (0, u "J"), (3, u "REPL"), (0, u "C"), (2, u "LATIN1"), (1, u "UTF16")] 323

def k7m0 : Method := { name := "<init>", desc := "()V", sig := { parameters := [], returnType := none }, accessFlags := 1, code := none }
def k7c1 : Code := { maxStack := 5, maxLocals := 2, code := jdk_42_method_3_code, exceptionTable := #[], attributes := #[] }
def k7m1 : Method := { name := "<init>", desc := "([C)V", sig := { parameters := [(.array .char)], returnType := none }, accessFlags := 1, code := some k7c1 }
def k7c2 : Code := { maxStack := 2, maxLocals := 1, code := jdk_42_method_54_code, exceptionTable := #[], attributes := #[] }
def k7m2 : Method := { name := "length", desc := "()I", sig := { parameters := [], returnType := some .int }, accessFlags := 1, code := some k7c2 }
def k7c3 : Code := { maxStack := 2, maxLocals := 2, code := jdk_42_method_56_code, exceptionTable := #[], attributes := #[] }
def k7m3 : Method := { name := "charAt", desc := "(I)C", sig := { parameters := [.int], returnType := some .char }, accessFlags := 1, code := some k7c3 }
def k7c4 : Code := { maxStack := 2, maxLocals := 3, code := jdk_42_method_66_code, exceptionTable := #[], attributes := #[] }
def k7m4 : Method := { name := "equals", desc := "(Ljava/lang/Object;)Z", sig := { parameters := [(.object "java/lang/Object")], returnType := some .boolean }, accessFlags := 1, code := some k7c4 }
def k7c5 : Code := { maxStack := 4, maxLocals := 6, code := jdk_42_method_149_code, exceptionTable := #[], attributes := #[] }
def k7m5 : Method := { name := "<init>", desc := "([CIILjava/lang/Void;)V", sig := { parameters := [(.array .char), .int, .int, (.object "java/lang/Void")], returnType := none }, accessFlags := 2, code := some k7c5 }
def k7c6 : Code := { maxStack := 1, maxLocals := 1, code := jdk_42_method_152_code, exceptionTable := #[], attributes := #[] }
def k7m6 : Method := { name := "coder", desc := "()B", sig := { parameters := [], returnType := some .byte }, accessFlags := 0, code := some k7c6 }
def k7c7 : Code := { maxStack := 1, maxLocals := 1, code := jdk_42_method_154_code, exceptionTable := #[], attributes := #[] }
def k7m7 : Method := { name := "isLatin1", desc := "()Z", sig := { parameters := [], returnType := some .boolean }, accessFlags := 0, code := some k7c7 }
def k7c8 : Code := { maxStack := 3, maxLocals := 2, code := jdk_42_method_155_code, exceptionTable := #[], attributes := #[] }
def k7m8 : Method := { name := "checkIndex", desc := "(II)V", sig := { parameters := [.int, .int], returnType := none }, accessFlags := 8, code := some k7c8 }
/-- java/lang/String -/
def k7 : Class := { plain "java/lang/String" (some 0) with
  accessFlags := 49
  interfaces := #[2, 3, 4, 5, 6]
  cf := some (fileOf pool7 10 #[.nestMembers #[1103]] #[{ accessFlags := 1, nameIndex := 5, descriptorIndex := 6, attributes := #[] }, { accessFlags := 1, nameIndex := 5, descriptorIndex := 1010, attributes := #[] }, { accessFlags := 1, nameIndex := 507, descriptorIndex := 334, attributes := #[] }, { accessFlags := 1, nameIndex := 497, descriptorIndex := 427, attributes := #[] }, { accessFlags := 1, nameIndex := 543, descriptorIndex := 573, attributes := #[] }, { accessFlags := 2, nameIndex := 5, descriptorIndex := 29, attributes := #[] }, { accessFlags := 0, nameIndex := 17, descriptorIndex := 337, attributes := #[] }, { accessFlags := 0, nameIndex := 494, descriptorIndex := 142, attributes := #[] }, { accessFlags := 8, nameIndex := 501, descriptorIndex := 391, attributes := #[] }] 49 2 #[1106, 1108, 575, 1110, 1112] #[{ accessFlags := 18, nameIndex := 13, descriptorIndex := 14, attributes := #[] }, { accessFlags := 18, nameIndex := 17, descriptorIndex := 18, attributes := #[] }, { accessFlags := 2, nameIndex := 21, descriptorIndex := 22, attributes := #[] }, { accessFlags := 2, nameIndex := 25, descriptorIndex := 26, attributes := #[] }, { accessFlags := 26, nameIndex := 1116, descriptorIndex := 1117, attributes := #[] }, { accessFlags := 24, nameIndex := 40, descriptorIndex := 26, attributes := #[] }, { accessFlags := 26, nameIndex := 1101, descriptorIndex := 1102, attributes := #[] }, { accessFlags := 26, nameIndex := 1121, descriptorIndex := 1122, attributes := #[] }, { accessFlags := 25, nameIndex := 599, descriptorIndex := 600, attributes := #[] }, { accessFlags := 24, nameIndex := 1125, descriptorIndex := 18, attributes := #[] }, { accessFlags := 24, nameIndex := 1127, descriptorIndex := 18, attributes := #[] }])
  fields := #[{ name := "value", type := (.array .byte), accessFlags := 18, slot := 0, constantValue := 0 }, { name := "coder", type := .byte, accessFlags := 18, slot := 1, constantValue := 0 }, { name := "hash", type := .int, accessFlags := 2, slot := 2, constantValue := 0 }, { name := "hashIsZero", type := .boolean, accessFlags := 2, slot := 3, constantValue := 0 }, { name := "serialVersionUID", type := .long, accessFlags := 26, slot := 0, constantValue := 0 }, { name := "COMPACT_STRINGS", type := .boolean, accessFlags := 24, slot := 1, constantValue := 0 }, { name := "serialPersistentFields", type := (.array (.object "java/io/ObjectStreamField")), accessFlags := 26, slot := 2, constantValue := 0 }, { name := "REPL", type := .char, accessFlags := 26, slot := 3, constantValue := 0 }, { name := "CASE_INSENSITIVE_ORDER", type := (.object "java/util/Comparator"), accessFlags := 25, slot := 4, constantValue := 0 }, { name := "LATIN1", type := .byte, accessFlags := 24, slot := 5, constantValue := 0 }, { name := "UTF16", type := .byte, accessFlags := 24, slot := 6, constantValue := 0 }]
  methods := #[k7m0, k7m1, k7m2, k7m3, k7m4, k7m5, k7m6, k7m7, k7m8]
  instanceTypes := #[(.array .byte), .byte, .int, .boolean]
  staticTypes := #[.long, .boolean, (.array (.object "java/io/ObjectStreamField")), .char, (.object "java/util/Comparator"), .byte, .byte]
  resolved := Array.replicate 1451 none
  statics := some 0 }

def pool8 : Array CpInfo := pool [(1, .class_ 2), (0, u "java/lang/String"), (1, .class_ 6), (1, u "java/lang/Object"), (0, u "<init>"), (0, u "()V"), (0, .methodref 1 10), (0, .nameAndType 11 12), (0, u "checkIndex"), (0, u "(II)V"), (1, .class_ 16), (1, u "java/lang/StringLatin1"), (36, u "([BI)C"), (67, u "$assertionsDisabled"), (0, u "Z"), (98, .class_ 223), (1, u "java/lang/StringLatin1$LinesSpliterator"), (28, u "charAt"), (28, u "equals"), (0, u "([B[B)Z"), (107, .class_ 391), (0, u "java/lang/StringLatin1$CharsSpliterator")] 3

def k8m0 : Method := { name := "<init>", desc := "()V", sig := { parameters := [], returnType := none }, accessFlags := 0, code := none }
def k8c1 : Code := { maxStack := 2, maxLocals := 2, code := jdk_43_method_2_code, exceptionTable := #[], attributes := #[] }
def k8m1 : Method := { name := "charAt", desc := "([BI)C", sig := { parameters := [(.array .byte), .int], returnType := some .char }, accessFlags := 9, code := some k8c1 }
def k8c2 : Code := { maxStack := 3, maxLocals := 3, code := jdk_43_method_13_code, exceptionTable := #[], attributes := #[] }
def k8m2 : Method := { name := "equals", desc := "([B[B)Z", sig := { parameters := [(.array .byte), (.array .byte)], returnType := some .boolean }, accessFlags := 9, code := some k8c2 }
/-- java/lang/StringLatin1 -/
def k8 : Class := { plain "java/lang/StringLatin1" (some 0) with
  accessFlags := 48
  interfaces := #[]
  cf := some (fileOf pool8 14 #[.nestMembers #[390, 221]] #[{ accessFlags := 0, nameIndex := 7, descriptorIndex := 8, attributes := #[] }, { accessFlags := 9, nameIndex := 252, descriptorIndex := 53, attributes := #[] }, { accessFlags := 9, nameIndex := 281, descriptorIndex := 282, attributes := #[] }] 48 4 #[] #[{ accessFlags := 4120, nameIndex := 121, descriptorIndex := 122, attributes := #[] }])
  fields := #[{ name := "$assertionsDisabled", type := .boolean, accessFlags := 4120, slot := 0, constantValue := 0 }]
  methods := #[k8m0, k8m1, k8m2]
  instanceTypes := #[]
  staticTypes := #[.boolean]
  resolved := Array.replicate 395 none
  statics := none }

def pool9 : Array CpInfo := pool [(2, .class_ 4), (1, u "java/lang/Object"), (0, u "<init>"), (0, u "()V"), (17, .class_ 26), (1, u "jdk/internal/util/Preconditions"), (6, u "checkIndex"), (21, .class_ 56), (0, u "jdk/internal/util/Preconditions$4"), (57, .class_ 115), (0, u "jdk/internal/util/Preconditions$1"), (7, u "SIOOBE_FORMATTER"), (0, u "Ljava/util/function/BiFunction;"), (0, .class_ 126), (0, u "jdk/internal/util/Preconditions$2"), (3, u "AIOOBE_FORMATTER"), (0, .class_ 132), (0, u "jdk/internal/util/Preconditions$3"), (3, u "IOOBE_FORMATTER"), (41, u "(IILjava/util/function/BiFunction;)I")] 15

def k9m0 : Method := { name := "<init>", desc := "()V", sig := { parameters := [], returnType := none }, accessFlags := 1, code := none }
def k9c1 : Code := { maxStack := 3, maxLocals := 3, code := jdk_41_method_11_code, exceptionTable := #[], attributes := #[] }
def k9m1 : Method := { name := "checkIndex", desc := "(IILjava/util/function/BiFunction;)I", sig := { parameters := [.int, .int, (.object "java/util/function/BiFunction")], returnType := some .int }, accessFlags := 9, code := some k9c1 }
/-- jdk/internal/util/Preconditions -/
def k9 : Class := { plain "jdk/internal/util/Preconditions" (some 0) with
  accessFlags := 33
  interfaces := #[]
  cf := some (fileOf pool9 24 #[.nestMembers #[55, 131, 125, 114]] #[{ accessFlags := 1, nameIndex := 5, descriptorIndex := 6, attributes := #[] }, { accessFlags := 9, nameIndex := 33, descriptorIndex := 178, attributes := #[] }] 33 2 #[] #[{ accessFlags := 25, nameIndex := 123, descriptorIndex := 124, attributes := #[] }, { accessFlags := 25, nameIndex := 130, descriptorIndex := 124, attributes := #[] }, { accessFlags := 25, nameIndex := 136, descriptorIndex := 124, attributes := #[] }])
  fields := #[{ name := "SIOOBE_FORMATTER", type := (.object "java/util/function/BiFunction"), accessFlags := 25, slot := 0, constantValue := 0 }, { name := "AIOOBE_FORMATTER", type := (.object "java/util/function/BiFunction"), accessFlags := 25, slot := 1, constantValue := 0 }, { name := "IOOBE_FORMATTER", type := (.object "java/util/function/BiFunction"), accessFlags := 25, slot := 2, constantValue := 0 }]
  methods := #[k9m0, k9m1]
  instanceTypes := #[]
  staticTypes := #[(.object "java/util/function/BiFunction"), (.object "java/util/function/BiFunction"), (.object "java/util/function/BiFunction")]
  resolved := Array.replicate 194 none
  statics := some 1 }

def pool10 : Array CpInfo := pool [(6, .class_ 8), (1, u "java/lang/Object"), (0, u "<init>"), (0, u "()V"), (1, .class_ 14), (1, u "java/lang/StringUTF16"), (31, u "$assertionsDisabled"), (0, u "Z"), (13, u "HI_BYTE_SHIFT"), (0, u "I"), (2, u "LO_BYTE_SHIFT"), (49, .methodref 12 116), (0, .nameAndType 117 118), (0, u "compress"), (0, u "([CI[BII)I"), (3, u "([CII)[B"), (138, u "coderFromArrayLen"), (0, u "([BI)B"), (106, .class_ 371), (1, u "java/lang/StringUTF16$LinesSpliterator"), (58, u "MAX_LENGTH"), (196, .class_ 628), (0, u "java/lang/StringUTF16$CodePointsSpliterator"), (0, .class_ 630), (0, u "java/lang/StringUTF16$CharsSpliterator")] 4

def k10m0 : Method := { name := "<init>", desc := "()V", sig := { parameters := [], returnType := none }, accessFlags := 0, code := none }
def k10c1 : Code := { maxStack := 2, maxLocals := 2, code := jdk_52_method_15_code, exceptionTable := #[], attributes := #[] }
def k10m1 : Method := { name := "coderFromArrayLen", desc := "([BI)B", sig := { parameters := [(.array .byte), .int], returnType := some .byte }, accessFlags := 8, code := some k10c1 }
def k10c2 : Code := { maxStack := 5, maxLocals := 6, code := jdk_52_method_16_code, exceptionTable := #[], attributes := #[] }
def k10m2 : Method := { name := "compress", desc := "([CII)[B", sig := { parameters := [(.array .char), .int, .int], returnType := some (.array .byte) }, accessFlags := 9, code := some k10c2 }
def k10c3 : Code := { maxStack := 3, maxLocals := 7, code := jdk_52_method_21_code, exceptionTable := #[], attributes := #[] }
def k10m3 : Method := { name := "compress", desc := "([CI[BII)I", sig := { parameters := [(.array .char), .int, (.array .byte), .int, .int], returnType := some .int }, accessFlags := 9, code := some k10c3 }
/-- java/lang/StringUTF16 -/
def k10 : Class := { plain "java/lang/StringUTF16" (some 0) with
  accessFlags := 48
  interfaces := #[]
  cf := some (fileOf pool10 12 #[.nestMembers #[627, 629, 369]] #[{ accessFlags := 0, nameIndex := 9, descriptorIndex := 10, attributes := #[] }, { accessFlags := 8, nameIndex := 261, descriptorIndex := 262, attributes := #[] }, { accessFlags := 9, nameIndex := 117, descriptorIndex := 122, attributes := #[] }, { accessFlags := 9, nameIndex := 117, descriptorIndex := 118, attributes := #[] }] 48 6 #[] #[{ accessFlags := 26, nameIndex := 61, descriptorIndex := 62, attributes := #[] }, { accessFlags := 26, nameIndex := 65, descriptorIndex := 62, attributes := #[] }, { accessFlags := 24, nameIndex := 430, descriptorIndex := 62, attributes := #[] }, { accessFlags := 4120, nameIndex := 46, descriptorIndex := 47, attributes := #[] }])
  fields := #[{ name := "HI_BYTE_SHIFT", type := .int, accessFlags := 26, slot := 0, constantValue := 0 }, { name := "LO_BYTE_SHIFT", type := .int, accessFlags := 26, slot := 1, constantValue := 0 }, { name := "MAX_LENGTH", type := .int, accessFlags := 24, slot := 2, constantValue := 0 }, { name := "$assertionsDisabled", type := .boolean, accessFlags := 4120, slot := 3, constantValue := 0 }]
  methods := #[k10m0, k10m1, k10m2, k10m3]
  instanceTypes := #[]
  staticTypes := #[.int, .int, .int, .boolean]
  resolved := Array.replicate 635 none
  statics := none }

def pool11 : Array CpInfo := pool [(2, .class_ 4), (1, u "java/lang/Enum"), (0, u "name"), (0, u "Ljava/lang/String;"), (2, u "ordinal"), (0, u "I"), (1, .class_ 14), (1, u "java/lang/Object"), (4, u "hash"), (86, .class_ 108), (1, u "java/lang/Enum$EnumDesc"), (2, .class_ 112), (0, u "java/lang/constant/Constable"), (0, .class_ 114), (0, u "java/lang/Comparable"), (0, .class_ 116), (0, u "java/io/Serializable")] 87

/-- java/lang/Enum -/
def k11 : Class := { plain "java/lang/Enum" (some 0) with
  accessFlags := 1057
  interfaces := #[5, 3, 2]
  cf := some (fileOf pool11 2 #[.nestMembers #[106]] #[] 1057 12 #[111, 113, 115] #[{ accessFlags := 18, nameIndex := 5, descriptorIndex := 6, attributes := #[] }, { accessFlags := 18, nameIndex := 9, descriptorIndex := 10, attributes := #[] }, { accessFlags := 2, nameIndex := 19, descriptorIndex := 10, attributes := #[] }])
  fields := #[{ name := "name", type := (.object "java/lang/String"), accessFlags := 18, slot := 0, constantValue := 0 }, { name := "ordinal", type := .int, accessFlags := 18, slot := 1, constantValue := 0 }, { name := "hash", type := .int, accessFlags := 2, slot := 2, constantValue := 0 }]
  methods := #[]
  instanceTypes := #[(.object "java/lang/String"), .int, .int]
  staticTypes := #[]
  resolved := Array.replicate 204 none
  statics := none }

def pool12 : Array CpInfo := pool [(1, .class_ 2), (0, u "com/example/tasklane/tasklane/engine/TaskSort"), (2, u "CREATED_AT"), (0, u "Lcom/example/tasklane/tasklane/engine/TaskSort;"), (2, u "PRIORITY"), (2, u "DUE_DATE"), (2, u "NAME"), (0, .fieldref 1 17), (0, .nameAndType 18 19), (0, u "$VALUES"), (0, u "[Lcom/example/tasklane/tasklane/engine/TaskSort;"), (0, .methodref 21 22), (0, .class_ 19), (0, .nameAndType 23 24), (0, u "clone"), (0, u "()Ljava/lang/Object;"), (1, .class_ 28), (1, u "java/lang/Enum"), (6, .fieldref 1 36), (0, .nameAndType 37 38), (0, u "id"), (0, u "Ljava/lang/String;"), (0, .methodref 1 40), (0, .nameAndType 41 42), (0, u "values"), (0, u "()[Lcom/example/tasklane/tasklane/engine/TaskSort;"), (0, .methodref 44 45), (0, .class_ 46), (0, .nameAndType 47 48), (0, u "java/lang/String"), (0, u "equals"), (0, u "(Ljava/lang/Object;)Z"), (0, .methodref 50 51), (0, .class_ 52), (0, .nameAndType 53 54), (0, u "java/util/Optional"), (0, u "of"), (0, u "(Ljava/lang/Object;)Ljava/util/Optional;"), (0, .methodref 50 56), (0, .nameAndType 57 58), (0, u "empty"), (0, u "()Ljava/util/Optional;"), (28, .class_ 88), (0, u "com/example/tasklane/tasklane/engine/TaskSort$1"), (5, .class_ 95), (0, u "com/example/tasklane/tasklane/engine/TaskSort$2"), (4, .class_ 101), (0, u "com/example/tasklane/tasklane/engine/TaskSort$3"), (4, .class_ 107), (0, u "com/example/tasklane/tasklane/engine/TaskSort$4"), (14, u "fromId"), (0, u "(Ljava/lang/String;)Ljava/util/Optional;")] 17

def k12c0 : Code := { maxStack := 1, maxLocals := 0, code := prog_24_method_1_code, exceptionTable := #[], attributes := #[] }
def k12m0 : Method := { name := "values", desc := "()[Lcom/example/tasklane/tasklane/engine/TaskSort;", sig := { parameters := [], returnType := some (.array (.object "com/example/tasklane/tasklane/engine/TaskSort")) }, accessFlags := 9, code := some k12c0 }
def k12c1 : Code := { maxStack := 2, maxLocals := 5, code := prog_24_method_5_code, exceptionTable := #[], attributes := #[] }
def k12m1 : Method := { name := "fromId", desc := "(Ljava/lang/String;)Ljava/util/Optional;", sig := { parameters := [(.object "java/lang/String")], returnType := some (.object "java/util/Optional") }, accessFlags := 9, code := some k12c1 }
/-- com/example/tasklane/tasklane/engine/TaskSort -/
def k12 : Class := { plain "com/example/tasklane/tasklane/engine/TaskSort" (some 11) with
  accessFlags := 17441
  interfaces := #[]
  cf := some (fileOf pool12 1 #[.nestMembers #[106, 100, 94, 87]] #[{ accessFlags := 9, nameIndex := 41, descriptorIndex := 42, attributes := #[] }, { accessFlags := 9, nameIndex := 122, descriptorIndex := 123, attributes := #[] }] 17441 26 #[] #[{ accessFlags := 16409, nameIndex := 5, descriptorIndex := 6, attributes := #[] }, { accessFlags := 16409, nameIndex := 9, descriptorIndex := 6, attributes := #[] }, { accessFlags := 16409, nameIndex := 12, descriptorIndex := 6, attributes := #[] }, { accessFlags := 16409, nameIndex := 15, descriptorIndex := 6, attributes := #[] }, { accessFlags := 18, nameIndex := 37, descriptorIndex := 38, attributes := #[] }, { accessFlags := 4122, nameIndex := 18, descriptorIndex := 19, attributes := #[] }])
  fields := #[{ name := "CREATED_AT", type := (.object "com/example/tasklane/tasklane/engine/TaskSort"), accessFlags := 16409, slot := 0, constantValue := 0 }, { name := "PRIORITY", type := (.object "com/example/tasklane/tasklane/engine/TaskSort"), accessFlags := 16409, slot := 1, constantValue := 0 }, { name := "DUE_DATE", type := (.object "com/example/tasklane/tasklane/engine/TaskSort"), accessFlags := 16409, slot := 2, constantValue := 0 }, { name := "NAME", type := (.object "com/example/tasklane/tasklane/engine/TaskSort"), accessFlags := 16409, slot := 3, constantValue := 0 }, { name := "id", type := (.object "java/lang/String"), accessFlags := 18, slot := 3, constantValue := 0 }, { name := "$VALUES", type := (.array (.object "com/example/tasklane/tasklane/engine/TaskSort")), accessFlags := 4122, slot := 4, constantValue := 0 }]
  methods := #[k12m0, k12m1]
  instanceTypes := #[(.object "java/lang/String"), .int, .int, (.object "java/lang/String")]
  staticTypes := #[(.object "com/example/tasklane/tasklane/engine/TaskSort"), (.object "com/example/tasklane/tasklane/engine/TaskSort"), (.object "com/example/tasklane/tasklane/engine/TaskSort"), (.object "com/example/tasklane/tasklane/engine/TaskSort"), (.array (.object "com/example/tasklane/tasklane/engine/TaskSort"))]
  resolved := Array.replicate 141 none
  statics := some 2 }

def pool13 : Array CpInfo := pool [(1, .class_ 2), (0, u "java/lang/Cloneable"), (0, .class_ 4), (0, u "java/lang/Object")] 2

/-- java/lang/Cloneable -/
def k13 : Class := { plain "java/lang/Cloneable" (some 0) with
  accessFlags := 1537
  interfaces := #[]
  cf := some (fileOf pool13 1 #[] #[] 1537 3 #[] #[])
  fields := #[]
  methods := #[]
  instanceTypes := #[]
  staticTypes := #[]
  resolved := Array.replicate 7 none
  statics := none }

def pool14 : Array CpInfo := pool [(2, .class_ 4), (1, u "com/example/tasklane/tasklane/engine/TaskSort"), (11, .class_ 17), (0, u "com/example/tasklane/tasklane/engine/TaskSort$1")] 36

/-- com/example/tasklane/tasklane/engine/TaskSort$1 -/
def k14 : Class := { plain "com/example/tasklane/tasklane/engine/TaskSort$1" (some 12) with
  accessFlags := 16432
  interfaces := #[]
  cf := some (fileOf pool14 16 #[.nestHost 2] #[] 16432 2 #[] #[])
  fields := #[]
  methods := #[]
  instanceTypes := #[(.object "java/lang/String"), .int, .int, (.object "java/lang/String")]
  staticTypes := #[]
  resolved := Array.replicate 54 none
  statics := none }

def pool15 : Array CpInfo := pool [(2, .class_ 4), (1, u "com/example/tasklane/tasklane/engine/TaskSort"), (27, .class_ 33), (0, u "com/example/tasklane/tasklane/engine/TaskSort$2")] 34

/-- com/example/tasklane/tasklane/engine/TaskSort$2 -/
def k15 : Class := { plain "com/example/tasklane/tasklane/engine/TaskSort$2" (some 12) with
  accessFlags := 16432
  interfaces := #[]
  cf := some (fileOf pool15 32 #[.nestHost 2] #[] 16432 2 #[] #[])
  fields := #[]
  methods := #[]
  instanceTypes := #[(.object "java/lang/String"), .int, .int, (.object "java/lang/String")]
  staticTypes := #[]
  resolved := Array.replicate 68 none
  statics := none }

def pool16 : Array CpInfo := pool [(2, .class_ 4), (1, u "com/example/tasklane/tasklane/engine/TaskSort"), (33, .class_ 39), (0, u "com/example/tasklane/tasklane/engine/TaskSort$3")] 34

/-- com/example/tasklane/tasklane/engine/TaskSort$3 -/
def k16 : Class := { plain "com/example/tasklane/tasklane/engine/TaskSort$3" (some 12) with
  accessFlags := 16432
  interfaces := #[]
  cf := some (fileOf pool16 38 #[.nestHost 2] #[] 16432 2 #[] #[])
  fields := #[]
  methods := #[]
  instanceTypes := #[(.object "java/lang/String"), .int, .int, (.object "java/lang/String")]
  staticTypes := #[]
  resolved := Array.replicate 74 none
  statics := none }

def pool17 : Array CpInfo := pool [(2, .class_ 4), (1, u "com/example/tasklane/tasklane/engine/TaskSort"), (33, .class_ 39), (0, u "com/example/tasklane/tasklane/engine/TaskSort$4")] 33

/-- com/example/tasklane/tasklane/engine/TaskSort$4 -/
def k17 : Class := { plain "com/example/tasklane/tasklane/engine/TaskSort$4" (some 12) with
  accessFlags := 16432
  interfaces := #[]
  cf := some (fileOf pool17 38 #[.nestHost 2] #[] 16432 2 #[] #[])
  fields := #[]
  methods := #[]
  instanceTypes := #[(.object "java/lang/String"), .int, .int, (.object "java/lang/String")]
  staticTypes := #[]
  resolved := Array.replicate 73 none
  statics := none }

def pool18 : Array CpInfo := pool [(1, .fieldref 2 3), (0, .class_ 4), (0, .nameAndType 5 6), (0, u "java/util/Optional"), (0, u "EMPTY"), (0, u "Ljava/util/Optional;"), (0, .methodref 8 9), (0, .class_ 10), (0, .nameAndType 11 12), (0, u "java/lang/Object"), (0, u "<init>"), (0, u "()V"), (0, .fieldref 2 14), (0, .nameAndType 15 16), (0, u "value"), (0, u "Ljava/lang/Object;"), (0, .methodref 18 19), (0, .class_ 20), (0, .nameAndType 21 22), (0, u "java/util/Objects"), (0, u "requireNonNull"), (0, u "(Ljava/lang/Object;)Ljava/lang/Object;"), (0, .methodref 2 24), (0, .nameAndType 11 25), (0, u "(Ljava/lang/Object;)V"), (20, u "()Z"), (8, u "empty"), (0, u "()Ljava/util/Optional;"), (8, u "(Ljava/lang/Object;)Ljava/util/Optional;"), (2, u "isPresent"), (4, u "get"), (0, u "()Ljava/lang/Object;"), (7, u "of")] 104

def k18c0 : Code := { maxStack := 1, maxLocals := 1, code := jdk_32_method_1_code, exceptionTable := #[], attributes := #[] }
def k18m0 : Method := { name := "empty", desc := "()Ljava/util/Optional;", sig := { parameters := [], returnType := some (.object "java/util/Optional") }, accessFlags := 9, code := some k18c0 }
def k18c1 : Code := { maxStack := 2, maxLocals := 2, code := jdk_32_method_2_code, exceptionTable := #[], attributes := #[] }
def k18m1 : Method := { name := "<init>", desc := "(Ljava/lang/Object;)V", sig := { parameters := [(.object "java/lang/Object")], returnType := none }, accessFlags := 2, code := some k18c1 }
def k18c2 : Code := { maxStack := 3, maxLocals := 1, code := jdk_32_method_3_code, exceptionTable := #[], attributes := #[] }
def k18m2 : Method := { name := "of", desc := "(Ljava/lang/Object;)Ljava/util/Optional;", sig := { parameters := [(.object "java/lang/Object")], returnType := some (.object "java/util/Optional") }, accessFlags := 9, code := some k18c2 }
def k18c3 : Code := { maxStack := 3, maxLocals := 1, code := jdk_32_method_5_code, exceptionTable := #[], attributes := #[] }
def k18m3 : Method := { name := "get", desc := "()Ljava/lang/Object;", sig := { parameters := [], returnType := some (.object "java/lang/Object") }, accessFlags := 1, code := some k18c3 }
def k18c4 : Code := { maxStack := 1, maxLocals := 1, code := jdk_32_method_6_code, exceptionTable := #[], attributes := #[] }
def k18m4 : Method := { name := "isPresent", desc := "()Z", sig := { parameters := [], returnType := some .boolean }, accessFlags := 1, code := some k18c4 }
/-- java/util/Optional -/
def k18 : Class := { plain "java/util/Optional" (some 0) with
  accessFlags := 49
  interfaces := #[]
  cf := some (fileOf pool18 2 #[] #[{ accessFlags := 9, nameIndex := 55, descriptorIndex := 56, attributes := #[] }, { accessFlags := 2, nameIndex := 11, descriptorIndex := 25, attributes := #[] }, { accessFlags := 9, nameIndex := 82, descriptorIndex := 65, attributes := #[] }, { accessFlags := 1, nameIndex := 73, descriptorIndex := 74, attributes := #[] }, { accessFlags := 1, nameIndex := 68, descriptorIndex := 46, attributes := #[] }] 49 8 #[] #[{ accessFlags := 26, nameIndex := 5, descriptorIndex := 6, attributes := #[] }, { accessFlags := 18, nameIndex := 15, descriptorIndex := 16, attributes := #[] }])
  fields := #[{ name := "EMPTY", type := (.object "java/util/Optional"), accessFlags := 26, slot := 0, constantValue := 0 }, { name := "value", type := (.object "java/lang/Object"), accessFlags := 18, slot := 0, constantValue := 0 }]
  methods := #[k18m0, k18m1, k18m2, k18m3, k18m4]
  instanceTypes := #[(.object "java/lang/Object")]
  staticTypes := #[(.object "java/util/Optional")]
  resolved := Array.replicate 187 none
  statics := some 3 }

def pool19 : Array CpInfo := pool [(2, .class_ 4), (1, u "java/lang/Object"), (0, u "<init>"), (0, u "()V"), (35, .class_ 44), (1, u "java/util/Objects"), (0, u "requireNonNull"), (0, u "(Ljava/lang/Object;)Ljava/lang/Object;")] 137

def k19m0 : Method := { name := "<init>", desc := "()V", sig := { parameters := [], returnType := none }, accessFlags := 2, code := none }
def k19c1 : Code := { maxStack := 2, maxLocals := 1, code := jdk_31_method_10_code, exceptionTable := #[], attributes := #[] }
def k19m1 : Method := { name := "requireNonNull", desc := "(Ljava/lang/Object;)Ljava/lang/Object;", sig := { parameters := [(.object "java/lang/Object")], returnType := some (.object "java/lang/Object") }, accessFlags := 9, code := some k19c1 }
/-- java/util/Objects -/
def k19 : Class := { plain "java/util/Objects" (some 0) with
  accessFlags := 49
  interfaces := #[]
  cf := some (fileOf pool19 42 #[] #[{ accessFlags := 2, nameIndex := 5, descriptorIndex := 6, attributes := #[] }, { accessFlags := 9, nameIndex := 45, descriptorIndex := 46, attributes := #[] }] 49 2 #[] #[])
  fields := #[]
  methods := #[k19m0, k19m1]
  instanceTypes := #[]
  staticTypes := #[]
  resolved := Array.replicate 184 none
  statics := none }

def pool20 : Array CpInfo := pool [(9, u "<init>"), (6, .class_ 18), (1, u "java/lang/Object"), (0, u "()V"), (1, .class_ 23), (1, u "jdk/internal/util/ArraysSupport"), (0, u "LOG2_ARRAY_LONG_INDEX_SCALE"), (0, u "I"), (2, u "U"), (0, u "Ljdk/internal/misc/Unsafe;"), (8, u "BIG_ENDIAN"), (0, u "Z"), (8, u "LOG2_BYTE_BIT_SIZE"), (4, u "LOG2_ARRAY_INT_INDEX_SCALE"), (54, u "JLA"), (0, u "Ljdk/internal/access/JavaLangAccess;"), (11, u "LOG2_ARRAY_BOOLEAN_INDEX_SCALE"), (9, u "LOG2_ARRAY_BYTE_INDEX_SCALE"), (5, u "LOG2_ARRAY_CHAR_INDEX_SCALE"), (5, u "LOG2_ARRAY_SHORT_INDEX_SCALE"), (18, u "LOG2_ARRAY_FLOAT_INDEX_SCALE"), (24, u "LOG2_ARRAY_DOUBLE_INDEX_SCALE"), (89, u "T_BOOLEAN"), (2, u "T_CHAR"), (1, u "T_FLOAT"), (1, u "T_DOUBLE"), (1, u "T_BYTE"), (1, u "T_SHORT"), (1, u "T_INT"), (1, u "T_LONG"), (1, u "SOFT_MAX_ARRAY_LENGTH")] 83

def k20m0 : Method := { name := "<init>", desc := "()V", sig := { parameters := [], returnType := none }, accessFlags := 2, code := none }
/-- jdk/internal/util/ArraysSupport -/
def k20 : Class := { plain "jdk/internal/util/ArraysSupport" (some 0) with
  accessFlags := 33
  interfaces := #[]
  cf := some (fileOf pool20 21 #[] #[{ accessFlags := 2, nameIndex := 9, descriptorIndex := 19, attributes := #[] }] 33 16 #[] #[{ accessFlags := 24, nameIndex := 28, descriptorIndex := 29, attributes := #[] }, { accessFlags := 26, nameIndex := 38, descriptorIndex := 39, attributes := #[] }, { accessFlags := 25, nameIndex := 121, descriptorIndex := 25, attributes := #[] }, { accessFlags := 25, nameIndex := 131, descriptorIndex := 25, attributes := #[] }, { accessFlags := 25, nameIndex := 137, descriptorIndex := 25, attributes := #[] }, { accessFlags := 25, nameIndex := 143, descriptorIndex := 25, attributes := #[] }, { accessFlags := 25, nameIndex := 53, descriptorIndex := 25, attributes := #[] }, { accessFlags := 25, nameIndex := 24, descriptorIndex := 25, attributes := #[] }, { accessFlags := 25, nameIndex := 162, descriptorIndex := 25, attributes := #[] }, { accessFlags := 25, nameIndex := 187, descriptorIndex := 25, attributes := #[] }, { accessFlags := 26, nameIndex := 48, descriptorIndex := 25, attributes := #[] }, { accessFlags := 25, nameIndex := 277, descriptorIndex := 25, attributes := #[] }, { accessFlags := 25, nameIndex := 280, descriptorIndex := 25, attributes := #[] }, { accessFlags := 25, nameIndex := 282, descriptorIndex := 25, attributes := #[] }, { accessFlags := 25, nameIndex := 284, descriptorIndex := 25, attributes := #[] }, { accessFlags := 25, nameIndex := 286, descriptorIndex := 25, attributes := #[] }, { accessFlags := 25, nameIndex := 288, descriptorIndex := 25, attributes := #[] }, { accessFlags := 25, nameIndex := 290, descriptorIndex := 25, attributes := #[] }, { accessFlags := 25, nameIndex := 292, descriptorIndex := 25, attributes := #[] }, { accessFlags := 26, nameIndex := 108, descriptorIndex := 109, attributes := #[] }, { accessFlags := 25, nameIndex := 294, descriptorIndex := 25, attributes := #[] }])
  fields := #[{ name := "U", type := (.object "jdk/internal/misc/Unsafe"), accessFlags := 24, slot := 0, constantValue := 0 }, { name := "BIG_ENDIAN", type := .boolean, accessFlags := 26, slot := 1, constantValue := 0 }, { name := "LOG2_ARRAY_BOOLEAN_INDEX_SCALE", type := .int, accessFlags := 25, slot := 2, constantValue := 0 }, { name := "LOG2_ARRAY_BYTE_INDEX_SCALE", type := .int, accessFlags := 25, slot := 3, constantValue := 0 }, { name := "LOG2_ARRAY_CHAR_INDEX_SCALE", type := .int, accessFlags := 25, slot := 4, constantValue := 0 }, { name := "LOG2_ARRAY_SHORT_INDEX_SCALE", type := .int, accessFlags := 25, slot := 5, constantValue := 0 }, { name := "LOG2_ARRAY_INT_INDEX_SCALE", type := .int, accessFlags := 25, slot := 6, constantValue := 0 }, { name := "LOG2_ARRAY_LONG_INDEX_SCALE", type := .int, accessFlags := 25, slot := 7, constantValue := 0 }, { name := "LOG2_ARRAY_FLOAT_INDEX_SCALE", type := .int, accessFlags := 25, slot := 8, constantValue := 0 }, { name := "LOG2_ARRAY_DOUBLE_INDEX_SCALE", type := .int, accessFlags := 25, slot := 9, constantValue := 0 }, { name := "LOG2_BYTE_BIT_SIZE", type := .int, accessFlags := 26, slot := 10, constantValue := 0 }, { name := "T_BOOLEAN", type := .int, accessFlags := 25, slot := 11, constantValue := 0 }, { name := "T_CHAR", type := .int, accessFlags := 25, slot := 12, constantValue := 0 }, { name := "T_FLOAT", type := .int, accessFlags := 25, slot := 13, constantValue := 0 }, { name := "T_DOUBLE", type := .int, accessFlags := 25, slot := 14, constantValue := 0 }, { name := "T_BYTE", type := .int, accessFlags := 25, slot := 15, constantValue := 0 }, { name := "T_SHORT", type := .int, accessFlags := 25, slot := 16, constantValue := 0 }, { name := "T_INT", type := .int, accessFlags := 25, slot := 17, constantValue := 0 }, { name := "T_LONG", type := .int, accessFlags := 25, slot := 18, constantValue := 0 }, { name := "JLA", type := (.object "jdk/internal/access/JavaLangAccess"), accessFlags := 26, slot := 19, constantValue := 0 }, { name := "SOFT_MAX_ARRAY_LENGTH", type := .int, accessFlags := 25, slot := 20, constantValue := 0 }]
  methods := #[k20m0]
  instanceTypes := #[]
  staticTypes := #[(.object "jdk/internal/misc/Unsafe"), .boolean, .int, .int, .int, .int, .int, .int, .int, .int, .int, .int, .int, .int, .int, .int, .int, .int, .int, (.object "jdk/internal/access/JavaLangAccess"), .int]
  resolved := Array.replicate 378 none
  statics := none }

/-- the primitive byte -/
def k21 : Class := { plain "byte" none with kind := .primitive 'B', accessFlags := 0x411 }
/-- [B -/
def k22 : Class := { plain "[B" (some 0) with kind := .array 21 .byte, interfaces := #[13, 2], accessFlags := 1041 }

/-- the primitive char -/
def k23 : Class := { plain "char" none with kind := .primitive 'C', accessFlags := 0x411 }
/-- [C -/
def k24 : Class := { plain "[C" (some 0) with kind := .array 23 .char, interfaces := #[13, 2], accessFlags := 1041 }

/-- the primitive int -/
def k25 : Class := { plain "int" none with kind := .primitive 'I', accessFlags := 0x411 }
/-- [I -/
def k26 : Class := { plain "[I" (some 0) with kind := .array 25 .int, interfaces := #[13, 2], accessFlags := 1041 }

/-- [Lcom/example/tasklane/tasklane/engine/TaskSort; -/
def k27 : Class := { plain "[Lcom/example/tasklane/tasklane/engine/TaskSort;" (some 0) with kind := .array 12 (.object "com/example/tasklane/tasklane/engine/TaskSort"), interfaces := #[13, 2], accessFlags := 1041 }

def heap : Heap := #[{ cls := 7, slots := #[.long 0, .int 1, .null, .int 0, .null, .int 0, .int 0], vm := .statics 7 },
  { cls := 9, slots := #[.null, .null, .null], vm := .statics 9 },
  { cls := 12, slots := #[.ref 5, .ref 6, .ref 7, .ref 8, .ref 4], vm := .statics 12 },
  { cls := 18, slots := #[.ref 17], vm := .statics 18 },
  { cls := 27, slots := #[.ref 5, .ref 6, .ref 7, .ref 8], vm := .none },
  { cls := 14, slots := #[.null, .int 0, .int 0, .ref 9], vm := .none },
  { cls := 15, slots := #[.null, .int 1, .int 0, .ref 10], vm := .none },
  { cls := 16, slots := #[.null, .int 2, .int 0, .ref 11], vm := .none },
  { cls := 17, slots := #[.null, .int 3, .int 0, .ref 12], vm := .none },
  { cls := 7, slots := #[.ref 13, .int 0, .int 0, .int 0], vm := .none },
  { cls := 7, slots := #[.ref 14, .int 0, .int 0, .int 0], vm := .none },
  { cls := 7, slots := #[.ref 15, .int 0, .int 0, .int 0], vm := .none },
  { cls := 7, slots := #[.ref 16, .int 0, .int 0, .int 0], vm := .none },
  { cls := 22, slots := #[.int 99, .int 114, .int 101, .int 97, .int 116, .int 101, .int 100, .int 65, .int 116], vm := .none },
  { cls := 22, slots := #[.int 112, .int 114, .int 105, .int 111, .int 114, .int 105, .int 116, .int 121], vm := .none },
  { cls := 22, slots := #[.int 100, .int 117, .int 101, .int 68, .int 97, .int 116, .int 101], vm := .none },
  { cls := 22, slots := #[.int 110, .int 97, .int 109, .int 101], vm := .none },
  { cls := 18, slots := #[.null], vm := .none }]
def classes : Array Class := #[k0, k1, k2, k3, k4, k5, k6, k7, k8, k9, k10, k11, k12, k13, k14, k15, k16, k17, k18, k19, k20, k21, k22, k23, k24, k25, k26, k27]
def interned : List (Array UInt16 × Addr) := []
def slotsUsed : Nat := 81
def theMethod : MethodId := ⟨1, 1⟩
def args0 : Array Value := #[.int 0, .int 0, .int 0]
def aboutOver (below : List Frame) : State where
  vm := { classes := classes, interned := interned.toArray }
  heap := heap
  slotsUsed := slotsUsed
  threads := #[{ frames := .invoking theMethod args0 :: below }]
def below0 : List Frame := [.native { method := ⟨0, 0⟩, args := #[] }]
def about1 : State := aboutOver below0
def p0 : Program := .bare "" "" ""
def e0 : Env := launch0.env 0 0 0
theorem w_frames : about1.frames = Frame.invoking theMethod args0 :: below0 := rfl
set_option maxRecDepth 65536 in
theorem w_args : argsFit about1.vm theMethod args0 = true := by decide +kernel
set_option maxRecDepth 65536 in
theorem w_heap : heapFits about1 = true := by decide +kernel
set_option maxRecDepth 65536 in
theorem w_runnable : about1.curStatus? = some .runnable := by decide +kernel
set_option maxRecDepth 65536 in
theorem w_alone : about1.alone = true := by decide +kernel
set_option maxRecDepth 65536 in
theorem w_named : about1.methodNamed? x = some theMethod := by decide +kernel
set_option maxRecDepth 65536 in
theorem w_hears : about1.hears theMethod below0 = true := by decide +kernel
set_option maxRecDepth 65536 in
theorem w_ripe : about1.ripe theMethod args0 below0 = true := by decide +kernel
theorem w_running : about1.status = .running := rfl
set_option maxRecDepth 65536 in
theorem w_room : about1.hasRoom e0.platform room_1 = true :=
  launch0.hasRoom_least _ room_1 (by decide +kernel) (by decide +kernel) (by decide +kernel) (by decide +kernel) (by decide +kernel) (by decide +kernel)
theorem allAtoms_all (ts : List Jvm.Cond) (a : Array Jvm.Value) (st : Jvm.State) : (allAtoms ts).before a st = ts.all (fun c => c.before a st) := by
  induction ts with
  | nil => rfl
  | cons c t ih =>
    show (Jvm.Cond.and c (allAtoms t)).before a st = _
    rw [Jvm.Cond.before_and, ih, List.all_cons]
def words1 : List Jvm.Cond := Jvm.Cond.code x code maxLocals ret :: tables_1
/-- a 'code' word, met by the world's own term for the bytes: nothing is compared byte by byte -/
theorem code_word {y : MethodName} {bytes : ByteArray} {mx : Nat} {rt : Option FieldType} {a : Array Value} {s : State} {m : MethodId} {meth : Method} {c : Code} (h1 : s.methodNamed? y = some m) (h2 : s.vm.method? m = some meth) (h3 : meth.code = some c) (h4 : c.code = bytes)
    (h5 : (c.maxLocals == mx && c.exceptionTable.isEmpty && decide (c.maxStack ≤ mostOperands) && decide (meth.sig.returnType = rt) && !meth.locks && decide (parseMethodDescriptor y.desc = some meth.sig)) = true) : (Jvm.Cond.code y bytes mx rt).before a s = true := by
  simp only [Bool.and_eq_true, beq_iff_eq, Bool.not_eq_true', decide_eq_true_eq] at h5
  obtain ⟨⟨⟨⟨⟨g1, g2⟩, g3⟩, g4⟩, g5⟩, g6⟩ := h5
  simp [Cond.before, Cond.holds, Cond.value, h1, h2, h3, h4, g1, g2, g3, g4, g5, g6]
def isCode : Jvm.Cond → Bool
  | .code _ _ _ _ => true
  | _ => false
theorem all_split {L : List Jvm.Cond} {P : Jvm.Cond → Bool} (h1 : L.all (fun c => isCode c || P c) = true) (h2 : ∀ c ∈ L.filter isCode, P c = true) : L.all P = true := by
  refine List.all_eq_true.mpr fun c hc => ?_
  have h := List.all_eq_true.mp h1 c hc
  rcases Bool.eq_false_or_eq_true (isCode c) with hi | hi
  · exact h2 c (List.mem_filter.mpr ⟨hc, hi⟩)
  · simpa [hi] using h
set_option maxRecDepth 65536 in
theorem w_c0 : (Jvm.Cond.code x code maxLocals ret).before args0 about1 = true := code_word (m := ⟨1, 1⟩) (meth := k1m1) (c := k1c1) (by decide +kernel) rfl rfl rfl (by decide +kernel)
set_option maxRecDepth 65536 in
theorem w_c1 : (Jvm.Cond.code ({ cls := "com/example/tasklane/tasklane/engine/TaskSortFromIdPinLaw", name := "name", desc := "(I)Ljava/lang/String;" } : Jvm.MethodName) method_3_code (1 : Nat) (Option.some (Jvm.ClassFile.FieldType.object "java/lang/String"))).before args0 about1 = true := code_word (m := ⟨1, 2⟩) (meth := k1m2) (c := k1c2) (by decide +kernel) rfl rfl rfl (by decide +kernel)
set_option maxRecDepth 65536 in
theorem w_c2 : (Jvm.Cond.code ({ cls := "java/lang/String", name := "length", desc := "()I" } : Jvm.MethodName) jdk_42_method_54_code (1 : Nat) (Option.some Jvm.ClassFile.FieldType.int)).before args0 about1 = true := code_word (m := ⟨7, 2⟩) (meth := k7m2) (c := k7c2) (by decide +kernel) rfl rfl rfl (by decide +kernel)
set_option maxRecDepth 65536 in
theorem w_c3 : (Jvm.Cond.code ({ cls := "java/lang/String", name := "coder", desc := "()B" } : Jvm.MethodName) jdk_42_method_152_code (1 : Nat) (Option.some Jvm.ClassFile.FieldType.byte)).before args0 about1 = true := code_word (m := ⟨7, 6⟩) (meth := k7m6) (c := k7c6) (by decide +kernel) rfl rfl rfl (by decide +kernel)
set_option maxRecDepth 65536 in
theorem w_c4 : (Jvm.Cond.code ({ cls := "java/lang/String", name := "charAt", desc := "(I)C" } : Jvm.MethodName) jdk_42_method_56_code (2 : Nat) (Option.some Jvm.ClassFile.FieldType.char)).before args0 about1 = true := code_word (m := ⟨7, 3⟩) (meth := k7m3) (c := k7c3) (by decide +kernel) rfl rfl rfl (by decide +kernel)
set_option maxRecDepth 65536 in
theorem w_c5 : (Jvm.Cond.code ({ cls := "java/lang/String", name := "isLatin1", desc := "()Z" } : Jvm.MethodName) jdk_42_method_154_code (1 : Nat) (Option.some Jvm.ClassFile.FieldType.boolean)).before args0 about1 = true := code_word (m := ⟨7, 7⟩) (meth := k7m7) (c := k7c7) (by decide +kernel) rfl rfl rfl (by decide +kernel)
set_option maxRecDepth 65536 in
theorem w_c6 : (Jvm.Cond.code ({ cls := "java/lang/StringLatin1", name := "charAt", desc := "([BI)C" } : Jvm.MethodName) jdk_43_method_2_code (2 : Nat) (Option.some Jvm.ClassFile.FieldType.char)).before args0 about1 = true := code_word (m := ⟨8, 1⟩) (meth := k8m1) (c := k8c1) (by decide +kernel) rfl rfl rfl (by decide +kernel)
set_option maxRecDepth 65536 in
theorem w_c7 : (Jvm.Cond.code ({ cls := "java/lang/String", name := "checkIndex", desc := "(II)V" } : Jvm.MethodName) jdk_42_method_155_code (2 : Nat) (Option.none : Option Jvm.ClassFile.FieldType)).before args0 about1 = true := code_word (m := ⟨7, 8⟩) (meth := k7m8) (c := k7c8) (by decide +kernel) rfl rfl rfl (by decide +kernel)
set_option maxRecDepth 65536 in
theorem w_c8 : (Jvm.Cond.code ({ cls := "jdk/internal/util/Preconditions", name := "checkIndex", desc := "(IILjava/util/function/BiFunction;)I" } : Jvm.MethodName) jdk_41_method_11_code (3 : Nat) (Option.some Jvm.ClassFile.FieldType.int)).before args0 about1 = true := code_word (m := ⟨9, 1⟩) (meth := k9m1) (c := k9c1) (by decide +kernel) rfl rfl rfl (by decide +kernel)
set_option maxRecDepth 65536 in
theorem w_c9 : (Jvm.Cond.code ({ cls := "com/example/tasklane/tasklane/engine/TaskSortFromIdPinLaw", name := "replaced", desc := "(IIC)Ljava/lang/String;" } : Jvm.MethodName) method_5_code (4 : Nat) (Option.some (Jvm.ClassFile.FieldType.object "java/lang/String"))).before args0 about1 = true := code_word (m := ⟨1, 4⟩) (meth := k1m4) (c := k1c4) (by decide +kernel) rfl rfl rfl (by decide +kernel)
set_option maxRecDepth 65536 in
theorem w_c10 : (Jvm.Cond.code ({ cls := "java/lang/String", name := "<init>", desc := "([C)V" } : Jvm.MethodName) jdk_42_method_3_code (2 : Nat) (Option.none : Option Jvm.ClassFile.FieldType)).before args0 about1 = true := code_word (m := ⟨7, 1⟩) (meth := k7m1) (c := k7c1) (by decide +kernel) rfl rfl rfl (by decide +kernel)
set_option maxRecDepth 65536 in
theorem w_c11 : (Jvm.Cond.code ({ cls := "java/lang/String", name := "<init>", desc := "([CIILjava/lang/Void;)V" } : Jvm.MethodName) jdk_42_method_149_code (6 : Nat) (Option.none : Option Jvm.ClassFile.FieldType)).before args0 about1 = true := code_word (m := ⟨7, 5⟩) (meth := k7m5) (c := k7c5) (by decide +kernel) rfl rfl rfl (by decide +kernel)
set_option maxRecDepth 65536 in
theorem w_c12 : (Jvm.Cond.code ({ cls := "java/lang/Object", name := "<init>", desc := "()V" } : Jvm.MethodName) object_method_1_code (1 : Nat) (Option.none : Option Jvm.ClassFile.FieldType)).before args0 about1 = true := code_word (m := ⟨0, 0⟩) (meth := k0m0) (c := k0c0) (by decide +kernel) rfl rfl rfl (by decide +kernel)
set_option maxRecDepth 65536 in
theorem w_c13 : (Jvm.Cond.code ({ cls := "java/lang/StringUTF16", name := "compress", desc := "([CII)[B" } : Jvm.MethodName) jdk_52_method_16_code (6 : Nat) (Option.some (Jvm.ClassFile.FieldType.array Jvm.ClassFile.FieldType.byte))).before args0 about1 = true := code_word (m := ⟨10, 2⟩) (meth := k10m2) (c := k10c2) (by decide +kernel) rfl rfl rfl (by decide +kernel)
set_option maxRecDepth 65536 in
theorem w_c14 : (Jvm.Cond.code ({ cls := "java/lang/StringUTF16", name := "compress", desc := "([CI[BII)I" } : Jvm.MethodName) jdk_52_method_21_code (7 : Nat) (Option.some Jvm.ClassFile.FieldType.int)).before args0 about1 = true := code_word (m := ⟨10, 3⟩) (meth := k10m3) (c := k10c3) (by decide +kernel) rfl rfl rfl (by decide +kernel)
set_option maxRecDepth 65536 in
theorem w_c15 : (Jvm.Cond.code ({ cls := "java/lang/StringUTF16", name := "coderFromArrayLen", desc := "([BI)B" } : Jvm.MethodName) jdk_52_method_15_code (2 : Nat) (Option.some Jvm.ClassFile.FieldType.byte)).before args0 about1 = true := code_word (m := ⟨10, 1⟩) (meth := k10m1) (c := k10c1) (by decide +kernel) rfl rfl rfl (by decide +kernel)
set_option maxRecDepth 65536 in
theorem w_c16 : (Jvm.Cond.code ({ cls := "com/example/tasklane/tasklane/engine/TaskSort", name := "fromId", desc := "(Ljava/lang/String;)Ljava/util/Optional;" } : Jvm.MethodName) prog_24_method_5_code (5 : Nat) (Option.some (Jvm.ClassFile.FieldType.object "java/util/Optional"))).before args0 about1 = true := code_word (m := ⟨12, 1⟩) (meth := k12m1) (c := k12c1) (by decide +kernel) rfl rfl rfl (by decide +kernel)
set_option maxRecDepth 65536 in
theorem w_c17 : (Jvm.Cond.code ({ cls := "com/example/tasklane/tasklane/engine/TaskSort", name := "values", desc := "()[Lcom/example/tasklane/tasklane/engine/TaskSort;" } : Jvm.MethodName) prog_24_method_1_code (0 : Nat) (Option.some (Jvm.ClassFile.FieldType.array (Jvm.ClassFile.FieldType.object "com/example/tasklane/tasklane/engine/TaskSort")))).before args0 about1 = true := code_word (m := ⟨12, 0⟩) (meth := k12m0) (c := k12c0) (by decide +kernel) rfl rfl rfl (by decide +kernel)
set_option maxRecDepth 65536 in
theorem w_c18 : (Jvm.Cond.code ({ cls := "java/lang/String", name := "equals", desc := "(Ljava/lang/Object;)Z" } : Jvm.MethodName) jdk_42_method_66_code (3 : Nat) (Option.some Jvm.ClassFile.FieldType.boolean)).before args0 about1 = true := code_word (m := ⟨7, 4⟩) (meth := k7m4) (c := k7c4) (by decide +kernel) rfl rfl rfl (by decide +kernel)
set_option maxRecDepth 65536 in
theorem w_c19 : (Jvm.Cond.code ({ cls := "java/lang/StringLatin1", name := "equals", desc := "([B[B)Z" } : Jvm.MethodName) jdk_43_method_13_code (3 : Nat) (Option.some Jvm.ClassFile.FieldType.boolean)).before args0 about1 = true := code_word (m := ⟨8, 2⟩) (meth := k8m2) (c := k8c2) (by decide +kernel) rfl rfl rfl (by decide +kernel)
set_option maxRecDepth 65536 in
theorem w_c20 : (Jvm.Cond.code ({ cls := "java/util/Optional", name := "empty", desc := "()Ljava/util/Optional;" } : Jvm.MethodName) jdk_32_method_1_code (1 : Nat) (Option.some (Jvm.ClassFile.FieldType.object "java/util/Optional"))).before args0 about1 = true := code_word (m := ⟨18, 0⟩) (meth := k18m0) (c := k18c0) (by decide +kernel) rfl rfl rfl (by decide +kernel)
set_option maxRecDepth 65536 in
theorem w_c21 : (Jvm.Cond.code ({ cls := "java/util/Optional", name := "isPresent", desc := "()Z" } : Jvm.MethodName) jdk_32_method_6_code (1 : Nat) (Option.some Jvm.ClassFile.FieldType.boolean)).before args0 about1 = true := code_word (m := ⟨18, 4⟩) (meth := k18m4) (c := k18c4) (by decide +kernel) rfl rfl rfl (by decide +kernel)
set_option maxRecDepth 65536 in
theorem w_c22 : (Jvm.Cond.code ({ cls := "com/example/tasklane/tasklane/engine/TaskSortFromIdPinLaw", name := "truncated", desc := "(I)Ljava/lang/String;" } : Jvm.MethodName) method_6_code (2 : Nat) (Option.some (Jvm.ClassFile.FieldType.object "java/lang/String"))).before args0 about1 = true := code_word (m := ⟨1, 5⟩) (meth := k1m5) (c := k1c5) (by decide +kernel) rfl rfl rfl (by decide +kernel)
set_option maxRecDepth 65536 in
theorem w_c23 : (Jvm.Cond.code ({ cls := "com/example/tasklane/tasklane/engine/TaskSortFromIdPinLaw", name := "extended", desc := "(IC)Ljava/lang/String;" } : Jvm.MethodName) method_7_code (3 : Nat) (Option.some (Jvm.ClassFile.FieldType.object "java/lang/String"))).before args0 about1 = true := code_word (m := ⟨1, 6⟩) (meth := k1m6) (c := k1c6) (by decide +kernel) rfl rfl rfl (by decide +kernel)
set_option maxRecDepth 65536 in
theorem w_c24 : (Jvm.Cond.code ({ cls := "com/example/tasklane/tasklane/engine/TaskSortFromIdPinLaw", name := "sort", desc := "(I)Lcom/example/tasklane/tasklane/engine/TaskSort;" } : Jvm.MethodName) method_4_code (1 : Nat) (Option.some (Jvm.ClassFile.FieldType.object "com/example/tasklane/tasklane/engine/TaskSort"))).before args0 about1 = true := code_word (m := ⟨1, 3⟩) (meth := k1m3) (c := k1c3) (by decide +kernel) rfl rfl rfl (by decide +kernel)
set_option maxRecDepth 65536 in
theorem w_c25 : (Jvm.Cond.code ({ cls := "java/util/Optional", name := "of", desc := "(Ljava/lang/Object;)Ljava/util/Optional;" } : Jvm.MethodName) jdk_32_method_3_code (1 : Nat) (Option.some (Jvm.ClassFile.FieldType.object "java/util/Optional"))).before args0 about1 = true := code_word (m := ⟨18, 2⟩) (meth := k18m2) (c := k18c2) (by decide +kernel) rfl rfl rfl (by decide +kernel)
set_option maxRecDepth 65536 in
theorem w_c26 : (Jvm.Cond.code ({ cls := "java/util/Objects", name := "requireNonNull", desc := "(Ljava/lang/Object;)Ljava/lang/Object;" } : Jvm.MethodName) jdk_31_method_10_code (1 : Nat) (Option.some (Jvm.ClassFile.FieldType.object "java/lang/Object"))).before args0 about1 = true := code_word (m := ⟨19, 1⟩) (meth := k19m1) (c := k19c1) (by decide +kernel) rfl rfl rfl (by decide +kernel)
set_option maxRecDepth 65536 in
theorem w_c27 : (Jvm.Cond.code ({ cls := "java/util/Optional", name := "<init>", desc := "(Ljava/lang/Object;)V" } : Jvm.MethodName) jdk_32_method_2_code (2 : Nat) (Option.none : Option Jvm.ClassFile.FieldType)).before args0 about1 = true := code_word (m := ⟨18, 1⟩) (meth := k18m1) (c := k18c1) (by decide +kernel) rfl rfl rfl (by decide +kernel)
set_option maxRecDepth 65536 in
theorem w_c28 : (Jvm.Cond.code ({ cls := "java/util/Optional", name := "get", desc := "()Ljava/lang/Object;" } : Jvm.MethodName) jdk_32_method_5_code (1 : Nat) (Option.some (Jvm.ClassFile.FieldType.object "java/lang/Object"))).before args0 about1 = true := code_word (m := ⟨18, 3⟩) (meth := k18m3) (c := k18c3) (by decide +kernel) rfl rfl rfl (by decide +kernel)
def codes1 : List Jvm.Cond := [Jvm.Cond.code x code maxLocals ret, Jvm.Cond.code ({ cls := "com/example/tasklane/tasklane/engine/TaskSortFromIdPinLaw", name := "name", desc := "(I)Ljava/lang/String;" } : Jvm.MethodName) method_3_code (1 : Nat) (Option.some (Jvm.ClassFile.FieldType.object "java/lang/String")), Jvm.Cond.code ({ cls := "java/lang/String", name := "length", desc := "()I" } : Jvm.MethodName) jdk_42_method_54_code (1 : Nat) (Option.some Jvm.ClassFile.FieldType.int), Jvm.Cond.code ({ cls := "java/lang/String", name := "coder", desc := "()B" } : Jvm.MethodName) jdk_42_method_152_code (1 : Nat) (Option.some Jvm.ClassFile.FieldType.byte), Jvm.Cond.code ({ cls := "java/lang/String", name := "charAt", desc := "(I)C" } : Jvm.MethodName) jdk_42_method_56_code (2 : Nat) (Option.some Jvm.ClassFile.FieldType.char), Jvm.Cond.code ({ cls := "java/lang/String", name := "isLatin1", desc := "()Z" } : Jvm.MethodName) jdk_42_method_154_code (1 : Nat) (Option.some Jvm.ClassFile.FieldType.boolean), Jvm.Cond.code ({ cls := "java/lang/StringLatin1", name := "charAt", desc := "([BI)C" } : Jvm.MethodName) jdk_43_method_2_code (2 : Nat) (Option.some Jvm.ClassFile.FieldType.char), Jvm.Cond.code ({ cls := "java/lang/String", name := "checkIndex", desc := "(II)V" } : Jvm.MethodName) jdk_42_method_155_code (2 : Nat) (Option.none : Option Jvm.ClassFile.FieldType), Jvm.Cond.code ({ cls := "jdk/internal/util/Preconditions", name := "checkIndex", desc := "(IILjava/util/function/BiFunction;)I" } : Jvm.MethodName) jdk_41_method_11_code (3 : Nat) (Option.some Jvm.ClassFile.FieldType.int), Jvm.Cond.code ({ cls := "com/example/tasklane/tasklane/engine/TaskSortFromIdPinLaw", name := "replaced", desc := "(IIC)Ljava/lang/String;" } : Jvm.MethodName) method_5_code (4 : Nat) (Option.some (Jvm.ClassFile.FieldType.object "java/lang/String")), Jvm.Cond.code ({ cls := "java/lang/String", name := "<init>", desc := "([C)V" } : Jvm.MethodName) jdk_42_method_3_code (2 : Nat) (Option.none : Option Jvm.ClassFile.FieldType), Jvm.Cond.code ({ cls := "java/lang/String", name := "<init>", desc := "([CIILjava/lang/Void;)V" } : Jvm.MethodName) jdk_42_method_149_code (6 : Nat) (Option.none : Option Jvm.ClassFile.FieldType), Jvm.Cond.code ({ cls := "java/lang/Object", name := "<init>", desc := "()V" } : Jvm.MethodName) object_method_1_code (1 : Nat) (Option.none : Option Jvm.ClassFile.FieldType), Jvm.Cond.code ({ cls := "java/lang/StringUTF16", name := "compress", desc := "([CII)[B" } : Jvm.MethodName) jdk_52_method_16_code (6 : Nat) (Option.some (Jvm.ClassFile.FieldType.array Jvm.ClassFile.FieldType.byte)), Jvm.Cond.code ({ cls := "java/lang/StringUTF16", name := "compress", desc := "([CI[BII)I" } : Jvm.MethodName) jdk_52_method_21_code (7 : Nat) (Option.some Jvm.ClassFile.FieldType.int), Jvm.Cond.code ({ cls := "java/lang/StringUTF16", name := "coderFromArrayLen", desc := "([BI)B" } : Jvm.MethodName) jdk_52_method_15_code (2 : Nat) (Option.some Jvm.ClassFile.FieldType.byte), Jvm.Cond.code ({ cls := "com/example/tasklane/tasklane/engine/TaskSort", name := "fromId", desc := "(Ljava/lang/String;)Ljava/util/Optional;" } : Jvm.MethodName) prog_24_method_5_code (5 : Nat) (Option.some (Jvm.ClassFile.FieldType.object "java/util/Optional")), Jvm.Cond.code ({ cls := "com/example/tasklane/tasklane/engine/TaskSort", name := "values", desc := "()[Lcom/example/tasklane/tasklane/engine/TaskSort;" } : Jvm.MethodName) prog_24_method_1_code (0 : Nat) (Option.some (Jvm.ClassFile.FieldType.array (Jvm.ClassFile.FieldType.object "com/example/tasklane/tasklane/engine/TaskSort"))), Jvm.Cond.code ({ cls := "java/lang/String", name := "equals", desc := "(Ljava/lang/Object;)Z" } : Jvm.MethodName) jdk_42_method_66_code (3 : Nat) (Option.some Jvm.ClassFile.FieldType.boolean), Jvm.Cond.code ({ cls := "java/lang/StringLatin1", name := "equals", desc := "([B[B)Z" } : Jvm.MethodName) jdk_43_method_13_code (3 : Nat) (Option.some Jvm.ClassFile.FieldType.boolean), Jvm.Cond.code ({ cls := "java/util/Optional", name := "empty", desc := "()Ljava/util/Optional;" } : Jvm.MethodName) jdk_32_method_1_code (1 : Nat) (Option.some (Jvm.ClassFile.FieldType.object "java/util/Optional")), Jvm.Cond.code ({ cls := "java/util/Optional", name := "isPresent", desc := "()Z" } : Jvm.MethodName) jdk_32_method_6_code (1 : Nat) (Option.some Jvm.ClassFile.FieldType.boolean), Jvm.Cond.code ({ cls := "com/example/tasklane/tasklane/engine/TaskSortFromIdPinLaw", name := "truncated", desc := "(I)Ljava/lang/String;" } : Jvm.MethodName) method_6_code (2 : Nat) (Option.some (Jvm.ClassFile.FieldType.object "java/lang/String")), Jvm.Cond.code ({ cls := "com/example/tasklane/tasklane/engine/TaskSortFromIdPinLaw", name := "extended", desc := "(IC)Ljava/lang/String;" } : Jvm.MethodName) method_7_code (3 : Nat) (Option.some (Jvm.ClassFile.FieldType.object "java/lang/String")), Jvm.Cond.code ({ cls := "com/example/tasklane/tasklane/engine/TaskSortFromIdPinLaw", name := "sort", desc := "(I)Lcom/example/tasklane/tasklane/engine/TaskSort;" } : Jvm.MethodName) method_4_code (1 : Nat) (Option.some (Jvm.ClassFile.FieldType.object "com/example/tasklane/tasklane/engine/TaskSort")), Jvm.Cond.code ({ cls := "java/util/Optional", name := "of", desc := "(Ljava/lang/Object;)Ljava/util/Optional;" } : Jvm.MethodName) jdk_32_method_3_code (1 : Nat) (Option.some (Jvm.ClassFile.FieldType.object "java/util/Optional")), Jvm.Cond.code ({ cls := "java/util/Objects", name := "requireNonNull", desc := "(Ljava/lang/Object;)Ljava/lang/Object;" } : Jvm.MethodName) jdk_31_method_10_code (1 : Nat) (Option.some (Jvm.ClassFile.FieldType.object "java/lang/Object")), Jvm.Cond.code ({ cls := "java/util/Optional", name := "<init>", desc := "(Ljava/lang/Object;)V" } : Jvm.MethodName) jdk_32_method_2_code (2 : Nat) (Option.none : Option Jvm.ClassFile.FieldType), Jvm.Cond.code ({ cls := "java/util/Optional", name := "get", desc := "()Ljava/lang/Object;" } : Jvm.MethodName) jdk_32_method_5_code (1 : Nat) (Option.some (Jvm.ClassFile.FieldType.object "java/lang/Object"))]
set_option maxRecDepth 65536 in
theorem codes_eq : words1.filter isCode = codes1 := rfl
theorem w_codes : ∀ c ∈ words1.filter isCode, c.before args0 about1 = true := by
  rw [codes_eq]
  intro c hc
  simp only [codes1, List.mem_cons, List.not_mem_nil, or_false] at hc
  rcases hc with rfl | rfl | rfl | rfl | rfl | rfl | rfl | rfl | rfl | rfl | rfl | rfl | rfl | rfl | rfl | rfl | rfl | rfl | rfl | rfl | rfl | rfl | rfl | rfl | rfl | rfl | rfl | rfl | rfl
  · exact w_c0
  · exact w_c1
  · exact w_c2
  · exact w_c3
  · exact w_c4
  · exact w_c5
  · exact w_c6
  · exact w_c7
  · exact w_c8
  · exact w_c9
  · exact w_c10
  · exact w_c11
  · exact w_c12
  · exact w_c13
  · exact w_c14
  · exact w_c15
  · exact w_c16
  · exact w_c17
  · exact w_c18
  · exact w_c19
  · exact w_c20
  · exact w_c21
  · exact w_c22
  · exact w_c23
  · exact w_c24
  · exact w_c25
  · exact w_c26
  · exact w_c27
  · exact w_c28
set_option maxRecDepth 65536 in
theorem w_t1 : (words1.take 24).all (fun c => isCode c || c.before args0 about1) = true := by decide +kernel
set_option maxRecDepth 65536 in
theorem w_t2 : ((words1.drop 24).take 24).all (fun c => isCode c || c.before args0 about1) = true := by decide +kernel
set_option maxRecDepth 65536 in
theorem w_t3 : (((words1.drop 24).drop 24).take 24).all (fun c => isCode c || c.before args0 about1) = true := by decide +kernel
set_option maxRecDepth 65536 in
theorem w_t4 : ((((words1.drop 24).drop 24).drop 24).take 24).all (fun c => isCode c || c.before args0 about1) = true := by decide +kernel
set_option maxRecDepth 65536 in
theorem w_t5 : (((((words1.drop 24).drop 24).drop 24).drop 24).take 24).all (fun c => isCode c || c.before args0 about1) = true := by decide +kernel
set_option maxRecDepth 65536 in
theorem w_t6 : ((((((words1.drop 24).drop 24).drop 24).drop 24).drop 24).take 24).all (fun c => isCode c || c.before args0 about1) = true := by decide +kernel
set_option maxRecDepth 65536 in
theorem w_t7 : ((((((words1.drop 24).drop 24).drop 24).drop 24).drop 24).drop 24).all (fun c => isCode c || c.before args0 about1) = true := by decide +kernel
theorem w_tables : (allAtoms (Jvm.Cond.code x code maxLocals ret :: tables_1)).before args0 about1 = true := by
  rw [allAtoms_all]
  show words1.all (fun c => c.before args0 about1) = true
  refine all_split ?_ w_codes
  rw [← List.take_append_drop 24 words1, List.all_append, w_t1, ← List.take_append_drop 24 (words1.drop 24), List.all_append, w_t2, ← List.take_append_drop 24 ((words1.drop 24).drop 24), List.all_append, w_t3, ← List.take_append_drop 24 (((words1.drop 24).drop 24).drop 24), List.all_append, w_t4, ← List.take_append_drop 24 ((((words1.drop 24).drop 24).drop 24).drop 24), List.all_append, w_t5, ← List.take_append_drop 24 (((((words1.drop 24).drop 24).drop 24).drop 24).drop 24), List.all_append, w_t6, w_t7]
  rfl
set_option maxRecDepth 65536 in
theorem w_rest : rest_1_c.before args0 about1 = true := by decide +kernel
set_option maxRecDepth 65536 in
theorem w_case : (Jvm.Cond.and given_1 narrow_1).before args0 about1 = true := by decide +kernel
set_option maxRecDepth 65536 in
theorem w_consts : constsHeld consts_1 about1 := Jvm.Lit.constsHeldB_iff.mp (by decide +kernel)
theorem w_applies : (headSpec (Jvm.Cond.code x code maxLocals ret :: tables_1) room_1).applies x e0.platform about1 = true :=
  (Spec.applies_iff w_frames).mpr ⟨w_running, w_runnable, w_alone, w_named, w_hears, w_ripe, w_room, w_tables⟩
theorem atStart : AtStart classFile x code maxLocals ret World_1 tables_1 room_1 Calls_1 rest_1 Pre_1 launch0 p0 e0 about1 theMethod args0 below0 :=
  ⟨lists_1, trivial, launch0.admits_env _ _ _, launch0.least_env, fairChoices_fair.cas, fairChoices_fair.clock, w_frames, w_args, w_heap, w_applies, ⟨w_consts, trivial⟩, w_rest, w_case⟩
end start1
theorem witness_1 : WitnessClaimed_1 := ⟨start1.p0, start1.e0, start1.about1, start1.theMethod, start1.args0, start1.below0, start1.atStart⟩
end Jvm.Pilot.@@N@@
